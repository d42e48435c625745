import JvmDerived
import JvmDerived.Pilot.@@N@@Statement
import JvmDerived.Pilot.@@N@@Code
set_option linter.unusedVariables false
set_option linter.unusedSimpArgs false
@@BLOCK:NumsL.lean.txt@@
namespace Jvm.Pilot.@@N@@
open Jvm Jvm.ClassFile Sem Op Lib Jvm.Free Jvm.Stand Jvm.LawKit Jvm.RoadKit Bundle Jvm.Pilot.@@N@@.Jvm.D
section OwnKit
variable {p : Program} {l : Launch} {e : Env} {R : Room} {s : State} {m : MethodId} {args : Array Value} {below : List Frame} {meth : Method} {c : Code} {T T' : State} {locs : List Loc} {cells slots : Nat} {Q : Option Value → Heap → List Loc → Prop} {k n : Nat} {Fin : Outcome → State → Prop} {Z : State} {a0 : Array Value} {h : Heap} {pc : Nat} {Ls : Array Slot} {rest : List Value}
/-- from this frame on the body ends as Fin says -/
def own_Go (p : Program) (e : Env) (below : List Frame) (Fin : Outcome → State → Prop) (T : State) (f : JFrame) : Prop :=
  ∃ s₂ o, Steps p.tables e below (T.setTop f) s₂ ∧ s₂.status = .running ∧ Ended s₂ below o ∧ Fin o s₂
/-- it returned, as Q says; the frame as ever -/
def own_Fin (s : State) (Q : Option Value → Heap → List Loc → Prop) (k n : Nat) (o : Outcome) (t : State) : Prop := ∃ v L, o = .returned v ∧ Q v t.heap L ∧ FrameEnd s o t L k n
/-- it returned, as Q says; String constants may have been resolved -/
def own_FinW (s : State) (Q : Option Value → Heap → List Loc → Prop) (k n : Nat) (o : Outcome) (t : State) : Prop := ∃ v L, o = .returned v ∧ Q v t.heap L ∧ ReturnedEndW s o t L k n
theorem own_by {f f' : JFrame} (st : ∀ t, Steps p.tables e below (T'.setTop f') t → Steps p.tables e below (T.setTop f) t) (g : own_Go p e below Fin T' f') : own_Go p e below Fin T f := by
  obtain ⟨s₂, o, h, r⟩ := g
  exact ⟨s₂, o, st _ h, r⟩
theorem own_start {f f' : JFrame} (q : f = f') (g : own_Go p e below (own_Fin s Q k n) T f') : ∃ s₂ o, Steps p.tables e below (T.setTop f) s₂ ∧ s₂.status = .running ∧ Ended s₂ below o ∧ ∃ v L, o = .returned v ∧ Q v s₂.heap L ∧ FrameEnd s o s₂ L k n := by
  subst q; exact g
theorem own_startW {f f' : JFrame} (q : f = f') (g : own_Go p e below (own_FinW s Q k n) T f') : ∃ s₂ o, Steps p.tables e below (T.setTop f) s₂ ∧ s₂.status = .running ∧ Ended s₂ below o ∧ ∃ v L, o = .returned v ∧ Q v s₂.heap L ∧ ReturnedEndW s o s₂ L k n := by
  subst q; exact g
theorem own_ret (X : Stand p l e R s m args below meth c T locs cells slots) (hx : p.tables.exec = Jvm.exec) (hlk : meth.locks = false) {w : Value} {t : FieldType} {i : Instr} (hret : meth.sig.returnType = some t)
    (hi : (i = .ireturn ∧ (t = .int ∨ t = .boolean ∨ t = .byte ∨ t = .char ∨ t = .short) ∧ ∃ z, w = .int z) ∨ (i = .lreturn ∧ t = .long ∧ ∃ z, w = .long z) ∨ (i = .dreturn ∧ t = .double ∧ ∃ z, w = .double z) ∨ (i = .freturn ∧ t = .float ∧ ∃ z, w = .float z) ∨ (i = .areturn ∧ t.isReference = true ∧ w.isRef = true))
    (hn : narrow t w = w) (hd : decode c.code pc = .ok (i, 1)) (eT : T.heap = h) (hk : cells ≤ k) (hs : slots ≤ n) (q : Q (some w) h locs) : own_Go p e below (own_Fin s Q k n) T (mkF m pc Ls (w :: rest)) := by
  obtain ⟨fs, hr, hrun, hended, hW, hsame⟩ := X.leave (v := some w) (fun h => by rw [hret] at h; cases h) hlk
  refine ⟨_, _, retOut X hx hret hn hi hd hr, hrun, hended, _, _, rfl, ?_, ⟨_, rfl⟩, hW, hsame.mono hk hs⟩
  show Q _ T.heap _
  rw [eT]; exact q
theorem own_retI (X : Stand p l e R s m args below meth c T locs cells slots) (hx : p.tables.exec = Jvm.exec) (hlk : meth.locks = false) {z : Int32} (hret : meth.sig.returnType = some .int) (hd : decode c.code pc = .ok (.ireturn, 1)) (eT : T.heap = h) (hk : cells ≤ k) (hs : slots ≤ n) (q : Q (some (.int z)) h locs) : own_Go p e below (own_Fin s Q k n) T (mkF m pc Ls (.int z :: rest)) :=
  own_ret X hx hlk hret (Or.inl ⟨rfl, Or.inl rfl, z, rfl⟩) rfl hd eT hk hs q
theorem own_retZ (X : Stand p l e R s m args below meth c T locs cells slots) (hx : p.tables.exec = Jvm.exec) (hlk : meth.locks = false) {z : Int32} (hret : meth.sig.returnType = some .boolean) (hz : z = 0 ∨ z = 1) (hd : decode c.code pc = .ok (.ireturn, 1)) (eT : T.heap = h) (hk : cells ≤ k) (hs : slots ≤ n) (q : Q (some (.int z)) h locs) : own_Go p e below (own_Fin s Q k n) T (mkF m pc Ls (.int z :: rest)) :=
  own_ret X hx hlk hret (Or.inl ⟨rfl, Or.inr (Or.inl rfl), z, rfl⟩) (by rcases hz with rfl | rfl <;> rfl) hd eT hk hs q
theorem own_retJ (X : Stand p l e R s m args below meth c T locs cells slots) (hx : p.tables.exec = Jvm.exec) (hlk : meth.locks = false) {z : Int64} (hret : meth.sig.returnType = some .long) (hd : decode c.code pc = .ok (.lreturn, 1)) (eT : T.heap = h) (hk : cells ≤ k) (hs : slots ≤ n) (q : Q (some (.long z)) h locs) : own_Go p e below (own_Fin s Q k n) T (mkF m pc Ls (.long z :: rest)) :=
  own_ret X hx hlk hret (Or.inr (Or.inl ⟨rfl, rfl, z, rfl⟩)) rfl hd eT hk hs q
theorem own_retR (X : Stand p l e R s m args below meth c T locs cells slots) (hx : p.tables.exec = Jvm.exec) (hlk : meth.locks = false) {w : Value} {t : FieldType} (hret : meth.sig.returnType = some t) (ht : t.isReference = true) (hw : w.isRef = true) (hn : narrow t w = w) (hd : decode c.code pc = .ok (.areturn, 1)) (eT : T.heap = h) (hk : cells ≤ k) (hs : slots ≤ n) (q : Q (some w) h locs) : own_Go p e below (own_Fin s Q k n) T (mkF m pc Ls (w :: rest)) :=
  own_ret X hx hlk hret (Or.inr (Or.inr (Or.inr (Or.inr ⟨rfl, ht, hw⟩)))) hn hd eT hk hs q
theorem own_retV (X : Stand p l e R s m args below meth c T locs cells slots) (hx : p.tables.exec = Jvm.exec) (hlk : meth.locks = false) (hret : meth.sig.returnType = none) (hd : decode c.code pc = .ok (.return_, 1)) (eT : T.heap = h) (hk : cells ≤ k) (hs : slots ≤ n) (q : Q none h locs) : own_Go p e below (own_Fin s Q k n) T (mkF m pc Ls []) := by
  obtain ⟨fs, hr, hrun, hended, hW, hsame⟩ := X.leave (v := none) (fun _ => rfl) hlk
  refine ⟨_, _, X.returnOut hx hret hd hr, hrun, hended, _, _, rfl, ?_, ⟨_, rfl⟩, hW, hsame.mono hk hs⟩
  show Q _ T.heap _
  rw [eT]; exact q
/-- a conditional branch as a plain comparison -/
def own_cnd : ClassFile.Cond → Int32 → Int32 → Prop
  | .eq, x, y => x = y
  | .ne, x, y => ¬ x = y
  | .lt, x, y => x < y
  | .ge, x, y => ¬ x < y
  | .gt, x, y => y < x
  | .le, x, y => ¬ y < x
def own_neg : ClassFile.Cond → ClassFile.Cond
  | .eq => .ne
  | .ne => .eq
  | .lt => .ge
  | .ge => .lt
  | .gt => .le
  | .le => .gt
theorem own_holds (cd : ClassFile.Cond) (x y : Int32) : (if_icmp.holds cd x y = true ∧ own_cnd cd x y) ∨ (if_icmp.holds cd x y = false ∧ own_cnd (own_neg cd) x y) := by
  cases cd
  case eq => by_cases q : x = y; · exact Or.inl ⟨(teq q).1, q⟩
             · exact Or.inr ⟨(feq q).1, q⟩
  case ne => by_cases q : x = y; · exact Or.inr ⟨(teq q).2, q⟩
             · exact Or.inl ⟨(feq q).2, q⟩
  case lt => by_cases q : x < y; · exact Or.inl ⟨(tlt q).1, q⟩
             · exact Or.inr ⟨(flt q).1, q⟩
  case ge => by_cases q : x < y; · exact Or.inr ⟨(tlt q).2.1, q⟩
             · exact Or.inl ⟨(flt q).2.1, q⟩
  case gt => by_cases q : y < x; · exact Or.inl ⟨(tlt q).2.2.1, q⟩
             · exact Or.inr ⟨(flt q).2.2.1, q⟩
  case le => by_cases q : y < x; · exact Or.inr ⟨(tlt q).2.2.2, q⟩
             · exact Or.inl ⟨(flt q).2.2.2, q⟩
theorem own_icmp (X : Stand p l e R s m args below meth c T locs cells slots) (hx : p.tables.exec = Jvm.exec) {cd : ClassFile.Cond} {x y : Int32} {o : Int} (pc' : Nat) (hd : decode c.code pc = .ok (.if_icmp cd o, 3)) (ho : 0 ≤ (pc : Int) + o) (hp : ((pc : Int) + o).toNat = pc')
    (g1 : own_cnd cd x y → own_Go p e below Fin T (mkF m pc' Ls rest)) (g2 : own_cnd (own_neg cd) x y → own_Go p e below Fin T (mkF m (pc + 3) Ls rest)) : own_Go p e below Fin T (mkF m pc Ls (.int y :: .int x :: rest)) := by
  rcases own_holds cd x y with ⟨q, q'⟩ | ⟨q, q'⟩
  · exact own_by (fun t kk => XS.icmpYes X.here hx rfl (pc0 := pc) (pc' := pc') rfl hd rfl q ho hp kk) (g1 q')
  · exact own_by (fun t kk => XS.icmpNo X.here hx rfl hd rfl q kk) (g2 q')
theorem own_if (X : Stand p l e R s m args below meth c T locs cells slots) (hx : p.tables.exec = Jvm.exec) {cd : ClassFile.Cond} {x : Int32} {o : Int} (pc' : Nat) (hd : decode c.code pc = .ok (.ifCond cd o, 3)) (ho : 0 ≤ (pc : Int) + o) (hp : ((pc : Int) + o).toNat = pc')
    (g1 : own_cnd cd x 0 → own_Go p e below Fin T (mkF m pc' Ls rest)) (g2 : own_cnd (own_neg cd) x 0 → own_Go p e below Fin T (mkF m (pc + 3) Ls rest)) : own_Go p e below Fin T (mkF m pc Ls (.int x :: rest)) := by
  rcases own_holds cd x 0 with ⟨q, q'⟩ | ⟨q, q'⟩
  · exact own_by (fun t kk => XS.ifYes X.here hx rfl (pc0 := pc) (pc' := pc') rfl hd rfl ((if0 _ _).trans q) ho hp kk) (g1 q')
  · exact own_by (fun t kk => XS.ifNo X.here hx rfl hd rfl ((if0 _ _).trans q) kk) (g2 q')
/-- a static call by the callee's contract -/
theorem own_callS (X : Stand p l e R s m args below meth c T locs cells slots) (hx : p.tables.exec = Jvm.exec) (hZ : Z.Warmed39 s.vm) {own : String} {index : Nat} {y : MethodName} {bytes : ByteArray} {maxL W : Nat} {ret : Option FieldType} {rm : Room} {Qc : Option Value → Heap → List Loc → Prop}
    (hown : s.vm.findClass own = some m.cls) (w1 : (Cond.methodLink own index y).before a0 Z = true) (w2 : (Cond.static y).before a0 Z = true) (w3 : (Cond.initialized y.cls).before a0 Z = true) (w4 : (Cond.code y bytes maxL ret).before a0 Z = true)
    (hy : y.cls ≠ "java/lang/invoke/MethodHandle" ∧ y.cls ≠ "java/lang/invoke/VarHandle") (hml : Ls.size = c.maxLocals) {argsL : List Value} {ps : List FieldType} {rt : Option FieldType} (pd : parseMethodDescriptor y.desc = some ⟨ps, rt⟩) (hlen : argsL.length = ps.length)
    (hM : MetFree l y (head1 [Cond.code y bytes maxL ret] rm) (fun a U => a = argsL.toArray ∧ Z.Warmed39 U.vm ∧ U.heap = h) (fun _ _ _ _ _ => True) (fun _ U o U' => ∃ v L, o = .returned v ∧ Qc v U'.heap L ∧ FrameEnd U o U' L rm.cells rm.slots))
    (hf : rm.frames + 1 ≤ R.frames) (hl : W + (maxL + 11) + rm.locals ≤ R.locals) (hW : (rest.map fun v => v.category).sum ≤ W) (hc : cells + rm.cells ≤ R.cells) (hs : slots + rm.slots ≤ R.slots) (eT : T.heap = h) {st : List Value} (hst : st = argsL.reverse ++ rest) (hd : decode c.code pc = .ok (.invokestatic index, 3))
    (g : ∀ (v : Option Value) (T' : State) (L : List Loc), Stand p l e R s m args below meth c T' (locs ++ L) (cells + rm.cells) (slots + rm.slots) → Qc v T'.heap L → own_Go p e below Fin T' (mkF m (pc + 3) Ls (v.toList ++ rest))) :
    own_Go p e below Fin T (mkF m pc Ls st) := by
  subst hst
  obtain ⟨v, _, ⟨T2, L2, k2, n2⟩, -, X2, ⟨Lc2, hQ2, l2, y2, z2⟩, st2⟩ := Jvm.LawKit.callS X hx (y := y) hown (mvT hZ w1) (mvT hZ w2) (mvT hZ w3) (mvT hZ w4) hy (backOf (W := W) hM hZ w4 w3 hf hl) (g := (mkF m pc Ls (argsL.reverse ++ rest))) rfl hml (argsL := argsL) (rest := rest) (lenOf pd hlen) rfl (by show 2 * 0 + _ ≤ _; omega) hd (fun _ _ => ⟨rfl, eT, hc, hs⟩)
  dsimp only [Pt.U, Pt.locs, Pt.cells, Pt.slots] at X2 l2 y2 z2 st2 hQ2
  subst l2 y2 z2
  exact own_by (fun t kk => st2 _ kk) (g v T2 Lc2 X2 hQ2)
/-- a constructor by its contract -/
theorem own_callC (X : Stand p l e R s m args below meth c T locs cells slots) (hx : p.tables.exec = Jvm.exec) (hZ : Z.Warmed39 s.vm) {own : String} {index : Nat} {y : MethodName} {bytes : ByteArray} {maxL W : Nat} {rm : Room} {Qc : Option Value → Heap → List Loc → Prop} (hy1 : y.name = "<init>")
    (hown : s.vm.findClass own = some m.cls) (w1 : (Cond.methodLink own index y).before a0 Z = true) (w2 : (Cond.instanceMethod y).before a0 Z = true) (w3 : (Cond.initialized y.cls).before a0 Z = true) (w4 : (Cond.code y bytes maxL none).before a0 Z = true)
    (hy : y.cls ≠ "java/lang/invoke/MethodHandle" ∧ y.cls ≠ "java/lang/invoke/VarHandle") (hml : Ls.size = c.maxLocals) {a : Addr} {argsL : List Value} {ps : List FieldType} {rt : Option FieldType} (pd : parseMethodDescriptor y.desc = some ⟨ps, rt⟩) (hlen : argsL.length = ps.length)
    (hM : MetFree l y (head1 [Cond.code y bytes maxL none] rm) (fun b U => b = (.ref a :: argsL).toArray ∧ Z.Warmed39 U.vm ∧ U.heap = h) (fun _ _ _ _ _ => True) (fun _ U o U' => ∃ v L, o = .returned v ∧ Qc v U'.heap L ∧ FrameEnd U o U' L rm.cells rm.slots))
    (hf : rm.frames + 1 ≤ R.frames) (hl : W + (maxL + 11) + rm.locals ≤ R.locals) (hW : (rest.map fun v => v.category).sum ≤ W) (hc : cells + rm.cells ≤ R.cells) (hs : slots + rm.slots ≤ R.slots) (eT : T.heap = h) {st : List Value} (hst : st = argsL.reverse ++ .ref a :: rest) (hd : decode c.code pc = .ok (.invokespecial index, 3))
    (g : ∀ (v : Option Value) (T' : State) (L : List Loc), Stand p l e R s m args below meth c T' (locs ++ L) (cells + rm.cells) (slots + rm.slots) → Qc v T'.heap L → own_Go p e below Fin T' (mkF m (pc + 3) Ls (v.toList ++ rest))) :
    own_Go p e below Fin T (mkF m pc Ls st) := by
  subst hst
  obtain ⟨v, _, ⟨T2, L2, k2, n2⟩, -, X2, ⟨Lc2, hQ2, l2, y2, z2⟩, st2⟩ := X.specialBack hx (y := y) hy1 hown (mvT hZ w1) (mvT hZ w2) (mvT hZ w4) hy (backOf (W := W) hM hZ w4 w3 hf hl) (g := (mkF m pc Ls (argsL.reverse ++ .ref a :: rest))) rfl hml (Steps.refl _) (a := a) (argsL := argsL) (rest := rest) (lenOf pd hlen) rfl (by show 2 * 0 + _ ≤ _; omega) hd (fun _ _ => ⟨rfl, eT, hc, hs⟩)
  dsimp only [Pt.U, Pt.locs, Pt.cells, Pt.slots] at X2 l2 y2 z2 st2 hQ2
  subst l2 y2 z2
  exact own_by (fun t kk => st2.trans kk) (g v T2 Lc2 X2 hQ2)
/-- an instance method of the receiver's own class by its contract -/
theorem own_callV (X : Stand p l e R s m args below meth c T locs cells slots) (hx : p.tables.exec = Jvm.exec) (hZ : Z.Warmed39 s.vm) {own C : String} {index : Nat} {y z : MethodName} {bytes : ByteArray} {maxL W : Nat} {ret : Option FieldType} {rm : Room} {Qc : Option Value → Heap → List Loc → Prop}
    (hown : s.vm.findClass own = some m.cls) (w1 : (Cond.methodLink own index y).before a0 Z = true) (wd : (Cond.declares y).before a0 Z = true) (nf : NotFace s y) (ws : (Cond.selects C y z).before a0 Z = true) (w2 : (Cond.instanceMethod z).before a0 Z = true) (w3 : (Cond.initialized z.cls).before a0 Z = true) (w4 : (Cond.code z bytes maxL ret).before a0 Z = true)
    (hy : y.cls ≠ "java/lang/invoke/MethodHandle" ∧ y.cls ≠ "java/lang/invoke/VarHandle") (hml : Ls.size = c.maxLocals) {a : Addr} {argsL : List Value} {ps : List FieldType} {rt : Option FieldType} (pd : parseMethodDescriptor y.desc = some ⟨ps, rt⟩) (hlen : argsL.length = ps.length)
    (eT : T.heap = h) (E : Exa Z h a C)
    (hM : MetFree l z (head1 [Cond.code z bytes maxL ret] rm) (fun b U => b = (.ref a :: argsL).toArray ∧ Z.Warmed39 U.vm ∧ U.heap = h) (fun _ _ _ _ _ => True) (fun _ U o U' => ∃ v L, o = .returned v ∧ Qc v U'.heap L ∧ FrameEnd U o U' L rm.cells rm.slots))
    (hf : rm.frames + 1 ≤ R.frames) (hl : W + (maxL + 11) + rm.locals ≤ R.locals) (hW : (rest.map fun v => v.category).sum ≤ W) (hc : cells + rm.cells ≤ R.cells) (hs : slots + rm.slots ≤ R.slots) {st : List Value} (hst : st = argsL.reverse ++ .ref a :: rest) (hd : decode c.code pc = .ok (.invokevirtual index, 3))
    (g : ∀ (v : Option Value) (T' : State) (L : List Loc), Stand p l e R s m args below meth c T' (locs ++ L) (cells + rm.cells) (slots + rm.slots) → Qc v T'.heap L → own_Go p e below Fin T' (mkF m (pc + 3) Ls (v.toList ++ rest))) :
    own_Go p e below Fin T (mkF m pc Ls st) := by
  subst hst
  obtain ⟨cq, kq, qa, qb, qc⟩ := isOf hZ eT E
  obtain ⟨v, _, ⟨T2, L2, k2, n2⟩, -, X2, ⟨Lc2, hQ2, l2, y2, z2⟩, st2⟩ := X.virtualBack hx (y := y) (z := z) hown (mvT hZ w1) (mvT hZ wd) nf (mvT hZ ws) (mvT hZ w2) hy (backOf (W := W) hM hZ w4 w3 hf hl) qa qc (g := (mkF m pc Ls (argsL.reverse ++ .ref a :: rest))) rfl hml (Steps.refl _) (argsL := argsL) (rest := rest) (lenOf pd hlen) rfl (by show 2 * 0 + _ ≤ _; omega) hd (fun _ _ => ⟨rfl, eT, hc, hs⟩)
  dsimp only [Pt.U, Pt.locs, Pt.cells, Pt.slots] at X2 l2 y2 z2 st2 hQ2
  subst l2 y2 z2
  exact own_by (fun t kk => st2.trans kk) (g v T2 Lc2 X2 hQ2)
theorem own_getF (X : Stand p l e R s m args below meth c T locs cells slots) (hx : p.tables.exec = Jvm.exec) (hZ : Z.Warmed39 s.vm) {own R0 O nm d : String} {index : Nat} (hown : s.vm.findClass own = some m.cls) (w : (Cond.fieldLink own index R0 nm d).before a0 Z = true) (via : Via Z R0 O nm d) (eT : T.heap = h) {a : Addr} {v : Value} (F : Fld Z h a O nm d v) (hd : decode c.code pc = .ok (.getfield index, 3))
    (g : ∀ T', Stand p l e R s m args below meth c T' locs cells slots → T'.heap = h → own_Go p e below Fin T' (mkF m (pc + 3) Ls (v :: rest))) : own_Go p e below Fin T (mkF m pc Ls (.ref a :: rest)) := by
  obtain ⟨T', X', e', st⟩ := getF X hx hZ hown (host := "") (Or.inl w) via eT F (g := mkF m pc Ls (.ref a :: rest)) rfl rfl hd
  exact own_by (fun t kk => st _ kk) (g T' X' e')
theorem own_getFN (X : Stand p l e R s m args below meth c T locs cells slots) (hx : p.tables.exec = Jvm.exec) (hZ : Z.Warmed39 s.vm) {own R0 O nm d host : String} {index : Nat} (hown : s.vm.findClass own = some m.cls) (w : (Cond.fieldLinkNest own index R0 nm d host).before a0 Z = true) (via : Via Z R0 O nm d) (eT : T.heap = h) {a : Addr} {v : Value} (F : Fld Z h a O nm d v) (hd : decode c.code pc = .ok (.getfield index, 3))
    (g : ∀ T', Stand p l e R s m args below meth c T' locs cells slots → T'.heap = h → own_Go p e below Fin T' (mkF m (pc + 3) Ls (v :: rest))) : own_Go p e below Fin T (mkF m pc Ls (.ref a :: rest)) := by
  obtain ⟨T', X', e', st⟩ := getF X hx hZ hown (Or.inr w) via eT F (g := mkF m pc Ls (.ref a :: rest)) rfl rfl hd
  exact own_by (fun t kk => st _ kk) (g T' X' e')
theorem own_getS (X : Stand p l e R s m args below meth c T locs cells slots) (hx : p.tables.exec = Jvm.exec) (hZ : Z.Warmed39 s.vm) {own R0 O nm d : String} {index : Nat} (hown : s.vm.findClass own = some m.cls) (w : (Cond.fieldLink own index R0 nm d).before a0 Z = true) (via : Via Z R0 O nm d) (eT : T.heap = h) {v : Value} (F : Sta Z h O nm d v) (hd : decode c.code pc = .ok (.getstatic index, 3)) {st0 : List Value}
    (g : ∀ T', Stand p l e R s m args below meth c T' locs cells slots → T'.heap = h → own_Go p e below Fin T' (mkF m (pc + 3) Ls (v :: st0))) : own_Go p e below Fin T (mkF m pc Ls st0) := by
  obtain ⟨T', X', e', st⟩ := getS2 X hx hZ hown (host := "") (Or.inl w) via eT F (g := mkF m pc Ls st0) rfl hd
  exact own_by (fun t kk => st _ kk) (g T' X' e')
theorem own_getSN (X : Stand p l e R s m args below meth c T locs cells slots) (hx : p.tables.exec = Jvm.exec) (hZ : Z.Warmed39 s.vm) {own R0 O nm d host : String} {index : Nat} (hown : s.vm.findClass own = some m.cls) (w : (Cond.fieldLinkNest own index R0 nm d host).before a0 Z = true) (via : Via Z R0 O nm d) (eT : T.heap = h) {v : Value} (F : Sta Z h O nm d v) (hd : decode c.code pc = .ok (.getstatic index, 3)) {st0 : List Value}
    (g : ∀ T', Stand p l e R s m args below meth c T' locs cells slots → T'.heap = h → own_Go p e below Fin T' (mkF m (pc + 3) Ls (v :: st0))) : own_Go p e below Fin T (mkF m pc Ls st0) := by
  obtain ⟨T', X', e', st⟩ := getS2 X hx hZ hown (Or.inr w) via eT F (g := mkF m pc Ls st0) rfl hd
  exact own_by (fun t kk => st _ kk) (g T' X' e')
theorem own_putF (X : Stand p l e R s m args below meth c T locs cells slots) (hx : p.tables.exec = Jvm.exec) (hZ : Z.Warmed39 s.vm) {own R0 O nm d C : String} {index kk : Nat} {ty : FieldType} (hown : s.vm.findClass own = some m.cls) (w : (Cond.fieldLink own index R0 nm d).before a0 Z = true) (via : Via Z R0 O nm d) (eT : T.heap = h) {a : Addr} {v old : Value} (F : Fld Z h a O nm d old) (E : Exa Z h a C)
    (L : (Cond.lays C O nm d).before a0 Z = true ∨ ((Cond.laysFinal C O nm d).before a0 Z = true ∧ own = O ∧ meth.name = "<init>")) (wi : (Cond.instantiable C kk).before a0 Z = true) (hty : parseFieldDescriptor d = some ty) (hn : narrow ty v = v) (hf : fits ty v = true) (hd : decode c.code pc = .ok (.putfield index, 3))
    (g : ∀ T' h', Stand p l e R s m args below meth c T' (locs ++ [⟨a, Jvm.RoadKit.slotOf Z O nm d⟩]) cells slots → T'.heap = h' → Wr h h' a (Jvm.RoadKit.slotOf Z O nm d) v → own_Go p e below Fin T' (mkF m (pc + 3) Ls rest)) : own_Go p e below Fin T (mkF m pc Ls (v :: .ref a :: rest)) := by
  obtain ⟨T', h', X', e', W', st⟩ := putF X hx hZ hown (host := "") (Or.inl w) via eT F E L wi hty hn hf (g := mkF m pc Ls (v :: .ref a :: rest)) rfl rfl hd
  exact own_by (fun t kk => st _ kk) (g T' h' X' e' W')
theorem own_newO (X : Stand p l e R s m args below meth c T locs cells slots) (hx : p.tables.exec = Jvm.exec) (hZ : Z.Warmed39 s.vm) {own C : String} {index nn : Nat} (hown : s.vm.findClass own = some m.cls) (w : (Cond.classLink own index C).before a0 Z = true) (wi : (Cond.instantiable C nn).before a0 Z = true) (wz : (Cond.initialized C).before a0 Z = true) (eT : T.heap = h) (hd : decode c.code pc = .ok (.new index, 3)) (hc : cells + 1 ≤ R.cells) (hl : slots + nn ≤ R.slots) {st0 : List Value}
    (g : ∀ T' h' (b : Addr), Stand p l e R s m args below meth c T' locs (cells + 1) (slots + nn) → T'.heap = h' → b = h.size → Ext h h' → Exa Z h' b C → (∀ {O nm d : String} {ty : FieldType}, Laid Z a0 C O nm d → parseFieldDescriptor d = some ty → Fld Z h' b O nm d (defaultValue ty)) → own_Go p e below Fin T' (mkF m (pc + 3) Ls (.ref b :: st0))) : own_Go p e below Fin T (mkF m pc Ls st0) := by
  obtain ⟨T', h', X', e', E', A', D', -, st⟩ := newO X hx hZ hown w wi wz eT (g := mkF m pc Ls st0) rfl hd hc hl
  exact own_by (fun t kk => st _ kk) (g T' h' _ X' e' rfl E' A' D')
theorem own_initO (X : Stand p l e R s m args below meth c T locs cells slots) (hx : p.tables.exec = Jvm.exec) (hZ : Z.Warmed39 s.vm) {own : String} {idx : Nat} (hown : s.vm.findClass own = some m.cls) (w1 : (Cond.methodLink own idx Lib.objectInit).before a0 Z = true) (w2 : (Cond.instanceMethod Lib.objectInit).before a0 Z = true) (w3 : (Cond.code Lib.objectInit ⟨#[0xb1]⟩ 1 none).before a0 Z = true) (eT : T.heap = h) (hml : Ls.size = c.maxLocals) {a : Addr} (hd : decode c.code pc = .ok (.invokespecial idx, 3)) (hf : 1 ≤ R.frames) {W : Nat} (hW : (rest.map fun v => v.category).sum ≤ W) (hl : W + 12 ≤ R.locals)
    (g : ∀ T', Stand p l e R s m args below meth c T' locs cells slots → T'.heap = h → own_Go p e below Fin T' (mkF m (pc + 3) Ls rest)) : own_Go p e below Fin T (mkF m pc Ls (.ref a :: rest)) := by
  obtain ⟨T', X', e', st⟩ := initO X hx hZ hown w1 w2 w3 eT (g := mkF m pc Ls (.ref a :: rest)) rfl hml rfl hd hf (W := W) (by show 2 * 0 + _ ≤ _; omega) hl
  exact own_by (fun t kk => st _ kk) (g T' X' e')
end OwnKit
section OwnMore
variable {p : Program} {l : Launch} {e : Env} {R : Room} {s : State} {m : MethodId} {args : Array Value} {below : List Frame} {meth : Method} {c : Code} {T T' : State} {locs : List Loc} {cells slots : Nat} {Q : Option Value → Heap → List Loc → Prop} {k n : Nat} {Fin : Outcome → State → Prop} {Z : State} {a0 : Array Value} {h : Heap} {pc : Nat} {Ls : Array Slot} {rest : List Value}
theorem own_acmpEq (X : Stand p l e R s m args below meth c T locs cells slots) (hx : p.tables.exec = Jvm.exec) {a b : Addr} {o : Int} (pc' : Nat) (hd : decode c.code pc = .ok (.if_acmp .eq o, 3)) (ho : 0 ≤ (pc : Int) + o) (hp : ((pc : Int) + o).toNat = pc')
    (g1 : a = b → own_Go p e below Fin T (mkF m pc' Ls rest)) (g2 : ¬ a = b → own_Go p e below Fin T (mkF m (pc + 3) Ls rest)) : own_Go p e below Fin T (mkF m pc Ls (.ref b :: .ref a :: rest)) := by
  by_cases q : a = b
  · exact own_by (fun t kk => XT.acmpYes X.here hx rfl (pc0 := pc) (pc' := pc') rfl hd rfl rfl rfl (decide_eq_true (congrArg Value.ref q)) ho hp kk) (g1 q)
  · exact own_by (fun t kk => XT.acmpNo X.here hx rfl hd rfl rfl rfl (decide_eq_false fun z => q (Value.ref.inj z)) kk) (g2 q)
theorem own_acmpNe (X : Stand p l e R s m args below meth c T locs cells slots) (hx : p.tables.exec = Jvm.exec) {a b : Addr} {o : Int} (pc' : Nat) (hd : decode c.code pc = .ok (.if_acmp .ne o, 3)) (ho : 0 ≤ (pc : Int) + o) (hp : ((pc : Int) + o).toNat = pc')
    (g1 : ¬ a = b → own_Go p e below Fin T (mkF m pc' Ls rest)) (g2 : a = b → own_Go p e below Fin T (mkF m (pc + 3) Ls rest)) : own_Go p e below Fin T (mkF m pc Ls (.ref b :: .ref a :: rest)) := by
  by_cases q : a = b
  · exact own_by (fun t kk => XT.acmpNo X.here hx rfl hd rfl rfl rfl (decide_eq_false fun z => z (congrArg Value.ref q)) kk) (g2 q)
  · exact own_by (fun t kk => XT.acmpYes X.here hx rfl (pc0 := pc) (pc' := pc') rfl hd rfl rfl rfl (decide_eq_true fun z => q (Value.ref.inj z)) ho hp kk) (g1 q)
theorem own_eqI {args : Array Value} {t : Term} {x : Int32} (h : (Cond.eq t (.int x)).value args s none s [] = some true) : t.eval args s none [] s = some (.int x) := by
  have q : (Term.int x).eval args s none [] s = some (.int x) := rfl
  cases ht : t.eval args s none [] s with
  | none => simp [Cond.value, ht] at h
  | some w => cases w <;> simp [Cond.value, ht, q] at h <;> (try subst h) <;> simp_all
theorem own_enumF {args : Array Value} {C f d O nm dd : String} {a : Addr} {x : Int32} (ev : (Term.static C f d).eval args s none [] s = some (.ref a)) (h : (Cond.eq (Term.field (Term.static C f d) O nm dd) (.int x)).value args s none s [] = some true) : Fld s s.heap a O nm dd (.int x) :=
  Fld.start ((fld_at ev).symm.trans (own_eqI h))
theorem own_Sta_keep {Z : State} {h h' : Heap} {C n d : String} {v : Value} {ws : List Addr} (F : Sta Z h C n d v) (K : Keep h h' ws) (q : ∀ x ∈ ws, ∀ cell : Cell, h[x]? = some cell → cell.vm.isStatics = false) : Sta Z h' C n d v := by
  obtain ⟨cf, i, k, f, st, cell, h1, h2, h3, h4, h5, h6, h7⟩ := F
  exact ⟨cf, i, k, f, st, cell, h1, h2, h3, h4, K.2.1 st cell h5 (fun z => by rw [q st z cell h5] at h6; cases h6), h6, h7⟩
end OwnMore
section OwnCall
variable {p : Program} {l : Launch} {e : Env} {R : Room} {s : State} {m : MethodId} {args : Array Value} {below : List Frame} {meth : Method} {c : Code} {T T' : State} {locs : List Loc} {cells slots : Nat} {Fin : Outcome → State → Prop} {Z : State} {a0 : Array Value} {h : Heap} {pc : Nat} {Ls : Array Slot} {rest : List Value}
/-- a private method is selected itself -/
theorem own_selp {y : MethodName} {nn : Nat} (hins : (Cond.instantiable y.cls nn).before args s = true) (hpriv : (Cond.privateMethod y).before args s = true) (hinst : (Cond.instanceMethod y).before args s = true) (hy : y.cls ≠ "java/lang/invoke/MethodHandle" ∧ y.cls ≠ "java/lang/invoke/VarHandle") :
    (Cond.selects y.cls y y).before args s = true := by
  obtain ⟨cc, kc, hc, hk, -, hniab, -, -⟩ := Cond.instantiable_spec hins
  have hni : kc.isInterface = false := (Bool.or_eq_false_iff.mp hniab).1
  obtain ⟨mk, methM, hnamed, hmethM, -, -⟩ := Cond.instanceMethod_spec hinst
  have hfound : s.methodFound? y.cls y.name y.desc = some mk := State.methodFound?_of_named hnamed hy
  have hcls : mk.cls = cc := Option.some.inj ((findClass_of_methodNamed hnamed).symm.trans hc)
  have hsel : selectMethod {} s.vm cc mk = .method mk := selectMethod_private hmethM (Cond.privateMethod_at hpriv mk methM hnamed hmethM)
  simp only [Cond.before, Cond.holds, Cond.value, hc, hfound, hnamed, hsel, hcls, hk]
  simp; exact hni
/-- a private method of the receiver by its contract -/
theorem own_callP (X : Stand p l e R s m args below meth c T locs cells slots) (hx : p.tables.exec = Jvm.exec) (hZ : Z.Warmed39 s.vm) {own C : String} {index nn : Nat} {y : MethodName} {bytes : ByteArray} {maxL W : Nat} {ret : Option FieldType} {rm : Room} {Qc : Option Value → Heap → List Loc → Prop}
    (hown : s.vm.findClass own = some m.cls) (w1 : (Cond.methodLink own index y).before a0 Z = true) (w2 : (Cond.instanceMethod y).before a0 Z = true) (wi : (Cond.instantiable y.cls nn).before a0 Z = true) (wp : (Cond.privateMethod y).before a0 Z = true) (w3 : (Cond.initialized y.cls).before a0 Z = true) (w4 : (Cond.code y bytes maxL ret).before a0 Z = true)
    (hy : y.cls ≠ "java/lang/invoke/MethodHandle" ∧ y.cls ≠ "java/lang/invoke/VarHandle") (hml : Ls.size = c.maxLocals) {a : Addr} {argsL : List Value} {ps : List FieldType} {rt : Option FieldType} (pd : parseMethodDescriptor y.desc = some ⟨ps, rt⟩) (hlen : argsL.length = ps.length)
    (eT : T.heap = h) (E : Exa Z h a C)
    (hM : MetFree l y (head1 [Cond.code y bytes maxL ret] rm) (fun b U => b = (.ref a :: argsL).toArray ∧ Z.Warmed39 U.vm ∧ U.heap = h) (fun _ _ _ _ _ => True) (fun _ U o U' => ∃ v L, o = .returned v ∧ Qc v U'.heap L ∧ FrameEnd U o U' L rm.cells rm.slots))
    (hf : rm.frames + 1 ≤ R.frames) (hl : W + (maxL + 11) + rm.locals ≤ R.locals) (hW : (rest.map fun v => v.category).sum ≤ W) (hc : cells + rm.cells ≤ R.cells) (hs : slots + rm.slots ≤ R.slots) {st : List Value} (hst : st = argsL.reverse ++ .ref a :: rest) (hd : decode c.code pc = .ok (.invokevirtual index, 3))
    (g : ∀ (v : Option Value) (T' : State) (L : List Loc), Stand p l e R s m args below meth c T' (locs ++ L) (cells + rm.cells) (slots + rm.slots) → Qc v T'.heap L → own_Go p e below Fin T' (mkF m (pc + 3) Ls (v.toList ++ rest))) :
    own_Go p e below Fin T (mkF m pc Ls st) := by
  subst hst
  obtain ⟨cq, q1, q2⟩ := E.cell
  obtain ⟨v, _, ⟨T2, L2, k2, n2⟩, -, X2, ⟨Lc2, hQ2, l2, y2, z2⟩, st2⟩ := X.privateBack hx (y := y) hown (mvT hZ w1) (mvT hZ w2) (own_selp (mvT hZ wi) (mvP hZ wp) (mvT hZ w2) hy) (Cond.privateMethod_at (mvP hZ wp (args := #[]))) (mvT hZ w4) hy (backOf (W := W) hM hZ w4 w3 hf hl) (g := (mkF m pc Ls (argsL.reverse ++ .ref a :: rest))) rfl hml (Steps.refl _) (a := a) (by rw [eT]; exact q1) q2 (argsL := argsL) (rest := rest) (lenOf pd hlen) rfl (by show 2 * 0 + _ ≤ _; omega) hd (fun _ _ => ⟨rfl, eT, hc, hs⟩)
  dsimp only [Pt.U, Pt.locs, Pt.cells, Pt.slots] at X2 l2 y2 z2 st2 hQ2
  subst l2 y2 z2
  exact own_by (fun t kk => st2.trans kk) (g v T2 Lc2 X2 hQ2)
/-- an interface's method by the contract of the body that the receiver's class selects -/
theorem own_callI (X : Stand p l e R s m args below meth c T locs cells slots) (hx : p.tables.exec = Jvm.exec) (hZ : Z.Warmed39 s.vm) {own C : String} {index count : Nat} {xi y : MethodName} {bytes : ByteArray} {maxL W : Nat} {ret : Option FieldType} {rm : Room} {Qc : Option Value → Heap → List Loc → Prop}
    (hown : s.vm.findClass own = some m.cls) (w1 : (Cond.methodLink own index xi).before a0 Z = true) (wd : (Cond.declares xi).before a0 Z = true) (wf : (Cond.interfaceMethod xi.cls xi.cls xi.name xi.desc).before a0 Z = true) (hwf : ((Cond.interfaceMethod xi.cls xi.cls xi.name xi.desc).onTables && (Cond.interfaceMethod xi.cls xi.cls xi.name xi.desc).keepsFace) = true) (ws : (Cond.selects C xi y).before a0 Z = true) (w2 : (Cond.instanceMethod y).before a0 Z = true) (wp : (Cond.publicMethod y).before a0 Z = true) (wu : (Cond.unhidden C xi.name xi.desc).before a0 Z = true) (wc : (Cond.castable C xi.cls).before a0 Z = true) (w3 : (Cond.initialized y.cls).before a0 Z = true) (w4 : (Cond.code y bytes maxL ret).before a0 Z = true)
    (hy : xi.cls ≠ "java/lang/invoke/MethodHandle" ∧ xi.cls ≠ "java/lang/invoke/VarHandle") (hml : Ls.size = c.maxLocals) {a : Addr} {argsL : List Value} {ps : List FieldType} {rt : Option FieldType} (pd : parseMethodDescriptor xi.desc = some ⟨ps, rt⟩) (hlen : argsL.length = ps.length)
    (eT : T.heap = h) (E : Exa Z h a C)
    (hM : MetFree l y (head1 [Cond.code y bytes maxL ret] rm) (fun b U => b = (.ref a :: argsL).toArray ∧ Z.Warmed39 U.vm ∧ U.heap = h) (fun _ _ _ _ _ => True) (fun _ U o U' => ∃ v L, o = .returned v ∧ Qc v U'.heap L ∧ FrameEnd U o U' L rm.cells rm.slots))
    (hf : rm.frames + 1 ≤ R.frames) (hl : W + (maxL + 11) + rm.locals ≤ R.locals) (hW : (rest.map fun v => v.category).sum ≤ W) (hc : cells + rm.cells ≤ R.cells) (hs : slots + rm.slots ≤ R.slots) {st : List Value} (hst : st = argsL.reverse ++ .ref a :: rest) (hd : decode c.code pc = .ok (.invokeinterface index count, 5))
    (g : ∀ (v : Option Value) (T' : State) (L : List Loc), Stand p l e R s m args below meth c T' (locs ++ L) (cells + rm.cells) (slots + rm.slots) → Qc v T'.heap L → own_Go p e below Fin T' (mkF m (pc + 5) Ls (v.toList ++ rest))) :
    own_Go p e below Fin T (mkF m pc Ls st) := by
  subst hst
  obtain ⟨cq, kq, qa, qb, qc⟩ := isOf hZ eT E
  obtain ⟨v, _, ⟨T2, L2, k2, n2⟩, -, X2, ⟨Lc2, hQ2, l2, y2, z2⟩, st2⟩ := X.interfaceBack hx (xi := xi) (y := y) hown (mvT hZ w1) (mvT hZ wd) (mvT hZ wf hwf) (mvT hZ ws) (mvT hZ w2) (mvT hZ wp) (mvT hZ wu) (mvT hZ wc) hy (backOf (W := W) hM hZ w4 w3 hf hl) qa qb qc (g := (mkF m pc Ls (argsL.reverse ++ .ref a :: rest))) rfl hml (Steps.refl _) (argsL := argsL) (rest := rest) (lenOf pd hlen) rfl (by show 2 * 0 + _ ≤ _; omega) hd (fun _ _ => ⟨rfl, eT, hc, hs⟩)
  dsimp only [Pt.U, Pt.locs, Pt.cells, Pt.slots] at X2 l2 y2 z2 st2 hQ2
  subst l2 y2 z2
  exact own_by (fun t kk => st2.trans kk) (g v T2 Lc2 X2 hQ2)
theorem own_cast (X : Stand p l e R s m args below meth c T locs cells slots) (hx : p.tables.exec = Jvm.exec) (hZ : Z.Warmed39 s.vm) {own K : String} {index : Nat} (hown : s.vm.findClass own = some m.cls) (w : (Cond.classLink own index K).before a0 Z = true) (eT : T.heap = h) {a : Addr} (F : Ins Z h a K true) (hd : decode c.code pc = .ok (.checkcast index, 3))
    (g : ∀ T', Stand p l e R s m args below meth c T' locs cells slots → T'.heap = h → own_Go p e below Fin T' (mkF m (pc + 3) Ls (.ref a :: rest))) : own_Go p e below Fin T (mkF m pc Ls (.ref a :: rest)) := by
  obtain ⟨T', X', e', st⟩ := castY X hx hZ hown w eT F (g := mkF m pc Ls (.ref a :: rest)) rfl rfl hd
  exact own_by (fun t kk => st _ kk) (g T' X' e')
theorem own_inst (X : Stand p l e R s m args below meth c T locs cells slots) (hx : p.tables.exec = Jvm.exec) (hZ : Z.Warmed39 s.vm) {own K : String} {index : Nat} (hown : s.vm.findClass own = some m.cls) (w : (Cond.classLink own index K).before a0 Z = true) (eT : T.heap = h) {a : Addr} (F : Ins Z h a K true) (hd : decode c.code pc = .ok (.instanceof index, 3))
    (g : ∀ T', Stand p l e R s m args below meth c T' locs cells slots → T'.heap = h → own_Go p e below Fin T' (mkF m (pc + 3) Ls (.int (1 : Int32) :: rest))) : own_Go p e below Fin T (mkF m pc Ls (.ref a :: rest)) := by
  obtain ⟨T', X', e', st⟩ := instY X hx hZ hown w eT F (g := mkF m pc Ls (.ref a :: rest)) rfl rfl hd
  exact own_by (fun t kk => st _ kk) (g T' X' e')
end OwnCall
section OwnArr
variable {p : Program} {l : Launch} {e : Env} {R : Room} {s : State} {m : MethodId} {args : Array Value} {below : List Frame} {meth : Method} {c : Code} {T T' : State} {locs : List Loc} {cells slots : Nat} {Q : Option Value → Heap → List Loc → Prop} {k n : Nat} {Fin : Outcome → State → Prop} {Z : State} {a0 : Array Value} {h h' : Heap} {pc : Nat} {Ls : Array Slot} {rest : List Value}
/-- the array at a holds just vs -/
def own_Arr (Z : State) (h : Heap) (a : Addr) (ty : FieldType) (vs : List Value) : Prop := ∃ cl : Cell, Arr Z h a cl ty ∧ cl.slots = vs.toArray ∧ vs.length < 2 ^ 31 ∧ ∀ v ∈ vs, fits ty v = true
section Facts
variable {a b : Addr} {ty : FieldType} {vs : List Value} {sl : Nat} {v : Value} {ws : List Addr}
theorem own_Arr.lt (F : own_Arr Z h a ty vs) : a < h.size := by obtain ⟨c, A, -⟩ := F; exact A.lt
theorem own_Arr.ext (F : own_Arr Z h a ty vs) (E : Ext h h') : own_Arr Z h' a ty vs := by obtain ⟨c, A, r⟩ := F; exact ⟨c, A.ext E, r⟩
theorem own_Arr.other (F : own_Arr Z h b ty vs) (W : Wr h h' a sl v) (q : b ≠ a) : own_Arr Z h' b ty vs := by obtain ⟨c, A, r⟩ := F; exact ⟨c, A.other W q, r⟩
theorem own_Arr.keep (F : own_Arr Z h a ty vs) (K : Keep h h' ws) (q : a ∉ ws) : own_Arr Z h' a ty vs := by obtain ⟨c, A, r⟩ := F; exact ⟨c, ⟨K.2.1 a c A.1 q, A.2⟩, r⟩
theorem own_Arr.set (F : own_Arr Z h a ty vs) (W : Wr h h' a sl v) (hv : fits ty v = true) : own_Arr Z h' a ty (vs.set sl v) := by
  obtain ⟨c, A, r1, r2, r3⟩ := F
  refine ⟨_, A.same W, ?_, by simpa using r2, fun u hu => ?_⟩
  rotate_left
  · rcases List.mem_or_eq_of_mem_set hu with q | q
    · exact r3 u q
    · rw [q]; exact hv
  show c.slots.setIfInBounds sl v = _
  rw [r1]; simp
theorem own_idx {j : Int32} {i : Nat} (hj : j.toInt = (i : Int)) : j.toNatClampNeg = i ∧ ¬ j < 0 := by
  constructor
  · show j.toInt.toNat = i
    rw [hj]; simp
  · rw [Int32.lt_iff_toInt_lt, hj]
    have : (0 : Int32).toInt = 0 := by decide
    omega
theorem own_inb {cl : Cell} {j : Int32} {i : Nat} (hj : j.toInt = (i : Int)) (hs : cl.slots = vs.toArray) (hi : i < vs.length) : ¬ (j < 0 ∨ cl.slots.size ≤ j.toNatClampNeg) := by
  obtain ⟨q1, q2⟩ := own_idx hj
  rw [q1, hs]
  intro q
  rcases q with q | q
  · exact q2 q
  · simp at q; omega
theorem own_lt_of {i : Nat} {v : Value} (hv : vs[i]? = some v) : i < vs.length := (List.getElem?_eq_some_iff.mp hv).1
theorem own_Arr.new {cA : ClassId} {j : Int32} {i : Nat} (A : Arr Z h a (newA cA ty j) ty) (hj : j.toInt = (i : Int)) : own_Arr Z h a ty (List.replicate i (defaultValue ty)) := by
  refine ⟨_, A, ?_, ?_, fun u hu => ?_⟩
  rotate_left 2
  · rw [(List.mem_replicate.mp hu).2]
    cases ty <;> rfl
  · show Array.replicate j.toNatClampNeg (defaultValue ty) = _
    rw [(own_idx hj).1]; simp
  · have := Int32.toInt_lt j
    simp; omega
end Facts
theorem own_newP (X : Stand p l e R s m args below meth c T locs cells slots) (hx : p.tables.exec = Jvm.exec) (hZ : Z.Warmed39 s.vm) {aty : ArrayType} (w : (Cond.arrayClass (newarray.typeOf aty)).before a0 Z = true) (eT : T.heap = h) (hd : decode c.code pc = .ok (.newarray aty, 2)) {j : Int32} (i cap : Nat) (hj : j.toInt = (i : Int)) (hcap : i ≤ cap) (hb : cap * 8 ≤ 536870912) (hc : cells + 1 ≤ R.cells) (hl : slots + cap ≤ R.slots)
    (g : ∀ T' h' (b : Addr), Stand p l e R s m args below meth c T' locs (cells + 1) (slots + cap) → T'.heap = h' → b = h.size → Ext h h' → own_Arr Z h' b (newarray.typeOf aty) (List.replicate i (defaultValue (newarray.typeOf aty))) → own_Go p e below Fin T' (mkF m (pc + 2) Ls (.ref b :: rest))) : own_Go p e below Fin T (mkF m pc Ls (.int j :: rest)) := by
  obtain ⟨q1, q2⟩ := own_idx hj
  obtain ⟨T', h', cA, X', e', E', A', st⟩ := newP X hx hZ w eT (g := mkF m pc Ls (.int j :: rest)) rfl hd rfl q2 (cap := cap) (by rw [q1]; exact hcap) hb hc hl
  exact own_by (fun t kk => st _ kk) (g T' h' _ X' e' rfl E' (own_Arr.new A' hj))
theorem own_iastore (X : Stand p l e R s m args below meth c T locs cells slots) (hx : p.tables.exec = Jvm.exec) (hZ : Z.Warmed39 s.vm) (eT : T.heap = h) {a : Addr} {vs : List Value} (A : own_Arr Z h a .int vs) {j x : Int32} (i : Nat) (hj : j.toInt = (i : Int)) (hi : i < vs.length) (hd : decode c.code pc = .ok (.iastore, 1))
    (g : ∀ T' h', Stand p l e R s m args below meth c T' (locs ++ [⟨a, i⟩]) cells slots → T'.heap = h' → Wr h h' a i (.int x) → own_Arr Z h' a .int (vs.set i (.int x)) → own_Go p e below Fin T' (mkF m (pc + 1) Ls rest)) : own_Go p e below Fin T (mkF m pc Ls (.int x :: .int j :: .ref a :: rest)) := by
  have A' := A
  obtain ⟨cl, A1, r1, r2⟩ := A
  obtain ⟨T', h', X', e', W', st⟩ := stI X hx hZ eT A1 (own_inb hj r1 hi) (g := mkF m pc Ls (.int x :: .int j :: .ref a :: rest)) rfl rfl hd
  rw [(own_idx hj).1] at X' W'
  exact own_by (fun t kk => st _ kk) (g T' h' X' e' W' (A'.set W' rfl))
theorem own_iaload (X : Stand p l e R s m args below meth c T locs cells slots) (hx : p.tables.exec = Jvm.exec) (hZ : Z.Warmed39 s.vm) (eT : T.heap = h) {a : Addr} {vs : List Value} (A : own_Arr Z h a .int vs) {j : Int32} {v : Value} (i : Nat) (hj : j.toInt = (i : Int)) (hv : vs[i]? = some v) (hd : decode c.code pc = .ok (.iaload, 1))
    (g : own_Go p e below Fin T (mkF m (pc + 1) Ls (v :: rest))) : own_Go p e below Fin T (mkF m pc Ls (.int j :: .ref a :: rest)) := by
  obtain ⟨cl, A1, r1, r2⟩ := A
  exact own_by (fun t kk => X.iaload hx (j := j) (v := v) (by rw [eT]; exact A1.1) (State.isArrayOf_alike hZ.alike A1.2.1) A1.2.2 (own_inb hj r1 (own_lt_of hv)) (by rw [(own_idx hj).1, r1]; simpa using hv) (g := mkF m pc Ls (.int j :: .ref a :: rest)) rfl rfl hd _ kk) g
theorem own_caload (X : Stand p l e R s m args below meth c T locs cells slots) (hx : p.tables.exec = Jvm.exec) (hZ : Z.Warmed39 s.vm) (eT : T.heap = h) {a : Addr} {vs : List Value} (A : own_Arr Z h a .char vs) {j : Int32} {v : Value} (i : Nat) (hj : j.toInt = (i : Int)) (hv : vs[i]? = some v) (hd : decode c.code pc = .ok (.caload, 1))
    (g : own_Go p e below Fin T (mkF m (pc + 1) Ls (v :: rest))) : own_Go p e below Fin T (mkF m pc Ls (.int j :: .ref a :: rest)) := by
  obtain ⟨cl, A1, r1, r2⟩ := A
  exact own_by (fun t kk => X.caload hx (j := j) (v := v) (by rw [eT]; exact A1.1) (State.isArrayOf_alike hZ.alike A1.2.1) A1.2.2 (own_inb hj r1 (own_lt_of hv)) (by rw [(own_idx hj).1, r1]; simpa using hv) (g := mkF m pc Ls (.int j :: .ref a :: rest)) rfl rfl hd _ kk) g
theorem own_baload (X : Stand p l e R s m args below meth c T locs cells slots) (hx : p.tables.exec = Jvm.exec) (hZ : Z.Warmed39 s.vm) (eT : T.heap = h) {a : Addr} {vs : List Value} (A : own_Arr Z h a .byte vs) {j : Int32} {v : Value} (i : Nat) (hj : j.toInt = (i : Int)) (hv : vs[i]? = some v) (hd : decode c.code pc = .ok (.baload, 1))
    (g : own_Go p e below Fin T (mkF m (pc + 1) Ls (v :: rest))) : own_Go p e below Fin T (mkF m pc Ls (.int j :: .ref a :: rest)) := by
  obtain ⟨cl, A1, r1, r2⟩ := A
  exact own_by (fun t kk => X.baloadBytes hx (j := j) (v := v) (by rw [eT]; exact A1.1) (State.isArrayOf_alike hZ.alike A1.2.1) A1.2.2 (own_inb hj r1 (own_lt_of hv)) (by rw [(own_idx hj).1, r1]; simpa using hv) (g := mkF m pc Ls (.int j :: .ref a :: rest)) rfl rfl hd _ kk) g
theorem own_laload (X : Stand p l e R s m args below meth c T locs cells slots) (hx : p.tables.exec = Jvm.exec) (hZ : Z.Warmed39 s.vm) (eT : T.heap = h) {a : Addr} {vs : List Value} (A : own_Arr Z h a .long vs) {j : Int32} {v : Value} (i : Nat) (hj : j.toInt = (i : Int)) (hv : vs[i]? = some v) (hd : decode c.code pc = .ok (.laload, 1))
    (g : own_Go p e below Fin T (mkF m (pc + 1) Ls (v :: rest))) : own_Go p e below Fin T (mkF m pc Ls (.int j :: .ref a :: rest)) := by
  obtain ⟨cl, A1, r1, r2⟩ := A
  exact own_by (fun t kk => X.laload hx (j := j) (v := v) (by rw [eT]; exact A1.1) (State.isArrayOf_alike hZ.alike A1.2.1) A1.2.2 (own_inb hj r1 (own_lt_of hv)) (by rw [(own_idx hj).1, r1]; simpa using hv) (g := mkF m pc Ls (.int j :: .ref a :: rest)) rfl rfl hd _ kk) g
theorem own_castore (X : Stand p l e R s m args below meth c T locs cells slots) (hx : p.tables.exec = Jvm.exec) (hZ : Z.Warmed39 s.vm) (eT : T.heap = h) {a : Addr} {vs : List Value} (A : own_Arr Z h a .char vs) {j : Int32} {x : Int32} (i : Nat) (hj : j.toInt = (i : Int)) (hi : i < vs.length) (hd : decode c.code pc = .ok (.castore, 1))
    (g : ∀ T' h', Stand p l e R s m args below meth c T' (locs ++ [⟨a, i⟩]) cells slots → T'.heap = h' → Wr h h' a i (.int (nar .char x)) → own_Arr Z h' a .char (vs.set i (.int (nar .char x))) → own_Go p e below Fin T' (mkF m (pc + 1) Ls rest)) : own_Go p e below Fin T (mkF m pc Ls (.int x :: .int j :: .ref a :: rest)) := by
  have A' := A
  obtain ⟨cl, A1, r1, r2⟩ := A
  obtain ⟨T', h', X', e', W', st⟩ := stC X hx hZ eT A1 (own_inb hj r1 hi) (g := mkF m pc Ls (.int x :: .int j :: .ref a :: rest)) rfl rfl hd
  rw [(own_idx hj).1] at X' W'
  exact own_by (fun t kk => st _ kk) (g T' h' X' e' W' (A'.set W' (fits_nar_char _)))
theorem own_bastore (X : Stand p l e R s m args below meth c T locs cells slots) (hx : p.tables.exec = Jvm.exec) (hZ : Z.Warmed39 s.vm) (eT : T.heap = h) {a : Addr} {vs : List Value} (A : own_Arr Z h a .byte vs) {j : Int32} {x : Int32} (i : Nat) (hj : j.toInt = (i : Int)) (hi : i < vs.length) (hd : decode c.code pc = .ok (.bastore, 1))
    (g : ∀ T' h', Stand p l e R s m args below meth c T' (locs ++ [⟨a, i⟩]) cells slots → T'.heap = h' → Wr h h' a i (.int (nar .byte x)) → own_Arr Z h' a .byte (vs.set i (.int (nar .byte x))) → own_Go p e below Fin T' (mkF m (pc + 1) Ls rest)) : own_Go p e below Fin T (mkF m pc Ls (.int x :: .int j :: .ref a :: rest)) := by
  have A' := A
  obtain ⟨cl, A1, r1, r2⟩ := A
  obtain ⟨T', h', X', e', W', st⟩ := stB X hx hZ eT A1 (own_inb hj r1 hi) (g := mkF m pc Ls (.int x :: .int j :: .ref a :: rest)) rfl rfl hd
  rw [(own_idx hj).1] at X' W'
  exact own_by (fun t kk => st _ kk) (g T' h' X' e' W' (A'.set W' (fits_nar_byte _)))
theorem own_lastore (X : Stand p l e R s m args below meth c T locs cells slots) (hx : p.tables.exec = Jvm.exec) (hZ : Z.Warmed39 s.vm) (eT : T.heap = h) {a : Addr} {vs : List Value} (A : own_Arr Z h a .long vs) {j : Int32} {x : Int64} (i : Nat) (hj : j.toInt = (i : Int)) (hi : i < vs.length) (hd : decode c.code pc = .ok (.lastore, 1))
    (g : ∀ T' h', Stand p l e R s m args below meth c T' (locs ++ [⟨a, i⟩]) cells slots → T'.heap = h' → Wr h h' a i (.long x) → own_Arr Z h' a .long (vs.set i (.long x)) → own_Go p e below Fin T' (mkF m (pc + 1) Ls rest)) : own_Go p e below Fin T (mkF m pc Ls (.long x :: .int j :: .ref a :: rest)) := by
  have A' := A
  obtain ⟨cl, A1, r1, r2⟩ := A
  obtain ⟨T', h', X', e', W', st⟩ := stJ X hx hZ eT A1 (own_inb hj r1 hi) (g := mkF m pc Ls (.long x :: .int j :: .ref a :: rest)) rfl rfl hd
  rw [(own_idx hj).1] at X' W'
  exact own_by (fun t kk => st _ kk) (g T' h' X' e' W' (A'.set W' rfl))
theorem own_alen (X : Stand p l e R s m args below meth c T locs cells slots) (hx : p.tables.exec = Jvm.exec) (hZ : Z.Warmed39 s.vm) (eT : T.heap = h) {a : Addr} {ty : FieldType} {vs : List Value} (A : own_Arr Z h a ty vs) (hd : decode c.code pc = .ok (.arraylength, 1))
    (g : own_Go p e below Fin T (mkF m (pc + 1) Ls (.int vs.length.toInt32 :: rest))) : own_Go p e below Fin T (mkF m pc Ls (.ref a :: rest)) := by
  obtain ⟨cl, A1, r1, r2⟩ := A
  have hl : cl.slots.size = vs.length := by rw [r1]; simp
  rw [← hl] at g
  exact own_by (fun t kk => X.arraylength hx (by rw [eT]; exact A1.1) (State.isArrayOf_alike hZ.alike A1.2.1) (g := mkF m pc Ls (.ref a :: rest)) rfl rfl hd _ kk) g
theorem own_Arr.nostat {a : Addr} {ty : FieldType} {vs : List Value} (F : own_Arr Z h a ty vs) : ∀ cell : Cell, h[a]? = some cell → cell.vm.isStatics = false := by obtain ⟨c, A, -⟩ := F; exact A.nostat
theorem own_exa_arr {a b : Addr} {C : String} {kk : Nat} {ty : FieldType} {vs : List Value} (F : Exa Z h a C) (wi : (Cond.instantiable C kk).before a0 Z = true) (G : own_Arr Z h b ty vs) : a ≠ b := by
  obtain ⟨c, A, -⟩ := G
  exact ne_arr F wi A
theorem own_Arr.len {a : Addr} {ty : FieldType} {vs : List Value} (F : own_Arr Z h a ty vs) : vs.length < 2 ^ 31 := by obtain ⟨c, -, -, q, -⟩ := F; exact q
theorem own_getD {vs : List Value} {i : Nat} (hi : i < vs.length) (d : Value) : vs.getD i d = vs[i] := by simp [List.getD, hi]
theorem own_Arr.arv {a : Addr} {ty : FieldType} {vs : List Value} (F : own_Arr Z h a ty vs) (dv : Value) : ∃ kk, Arv Z h a kk ty vs.length.toInt32 vs dv := by
  obtain ⟨cl, A, r1, r2, r3⟩ := F
  have e1 : vs.length.toInt32.toInt = vs.length := len_toInt r2
  have e2 := own_idx e1
  have hs : cl.slots.size = vs.length := by rw [r1]; simp
  refine ⟨cl.cls, cl, A, rfl, by rw [hs, e2.1], e2.2, fun i hi => ?_, fun i hi => ?_⟩
  · rw [hs] at hi
    rw [own_getD hi, r1]; simp [hi]
  · rw [hs] at hi
    rw [own_getD hi]; exact r3 _ (List.getElem_mem hi)
theorem own_Arr.of_arv {a : Addr} {kk : ClassId} {ty : FieldType} {z : Int32} {vs : List Value} {dv : Value} (F : Arv Z h a kk ty z vs dv) (hl : z.toNatClampNeg = vs.length) : own_Arr Z h a ty vs := by
  obtain ⟨cl, A, -, q1, q2, H, G⟩ := F
  have hs : cl.slots.size = vs.length := q1.trans hl
  refine ⟨cl, A, ?_, ?_, fun v hv => ?_⟩
  · apply Array.ext'
    apply List.ext_getElem?
    intro i
    by_cases hi : i < vs.length
    · have := H i (by rw [hs]; exact hi)
      rw [own_getD hi] at this
      have q2 : (vs.toArray.toList)[i]? = some vs[i] := by simp [hi]
      rw [q2, Array.getElem?_toList]
      exact this
    · have h1 : cl.slots.toList[i]? = none := by rw [List.getElem?_eq_none_iff]; simp; omega
      have h2 : (vs.toArray.toList)[i]? = none := by rw [List.getElem?_eq_none_iff]; simp; omega
      rw [h1, h2]
  · rw [← hl]
    have := z.toInt_lt
    show z.toInt.toNat < 2 ^ 31
    omega
  · obtain ⟨i, hi, rfl⟩ := List.getElem_of_mem hv
    have := G i (by rw [hs]; exact hi)
    rwa [own_getD hi] at this
end OwnArr
section OwnList
/-- the list us written from the place i on -/
def own_put (vs : List Value) : Nat → List Int32 → List Value
  | _, [] => vs
  | i, u :: us => own_put (vs.set i (.int u)) (i + 1) us
theorem own_put_len : ∀ (us : List Int32) (vs : List Value) (i : Nat), (own_put vs i us).length = vs.length
  | [], vs, i => rfl
  | u :: us, vs, i => by rw [own_put, own_put_len us]; simp
/-- from the place i on the array holds xs -/
def own_At (vs : List Value) : Nat → List Int32 → Prop
  | _, [] => True
  | i, x :: xs => vs[i]? = some (.int x) ∧ own_At vs (i + 1) xs
theorem own_At_app : ∀ (xs ys : List Int32) (vs : List Value) (i : Nat), own_At vs i xs → own_At vs (i + xs.length) ys → own_At vs i (xs ++ ys)
  | [], ys, vs, i, _, h => by simpa using h
  | x :: xs, ys, vs, i, h, h' => by
    have e : i + 1 + xs.length = i + (x :: xs).length := by
      simp; omega
    exact ⟨h.1, own_At_app xs ys vs (i + 1) h.2 (by rw [e]; exact h')⟩
theorem own_put_lo : ∀ (us : List Int32) (vs : List Value) (i j : Nat), j < i → (own_put vs i us)[j]? = vs[j]?
  | [], vs, i, j, _ => rfl
  | u :: us, vs, i, j, h => by rw [own_put, own_put_lo us _ _ _ (by omega), List.getElem?_set_ne (by omega)]
theorem own_put_At : ∀ (us : List Int32) (vs : List Value) (i : Nat), i + us.length ≤ vs.length → own_At (own_put vs i us) i us
  | [], vs, i, _ => trivial
  | u :: us, vs, i, h => by
    have h' : i + 1 + us.length ≤ vs.length := by simp at h; omega
    refine ⟨?_, own_put_At us _ (i + 1) (by simpa using h')⟩
    rw [own_put, own_put_lo us _ _ _ (by omega)]
    have hi : i < vs.length := by simp at h; omega
    simp [hi]
theorem own_inc {x : Int32} {i : Nat} (h : x.toInt = (i : Int)) (hi : i + 1 < 2 ^ 31) : (x + 1).toInt = ((i + 1 : Nat) : Int) := by
  have k : (1 : Int32).toInt = 1 := by decide
  have e : (x + 1).toInt = x.toInt + (1 : Int32).toInt := Jvm.Kit.i32_add (by omega) (by omega)
  rw [e, h, k]; omega
theorem own_nlt {x y : Int32} {i j : Nat} (hx : x.toInt = (i : Int)) (hy : y.toInt = (j : Int)) (q : j ≤ i) : ¬ x < y := by rw [Int32.lt_iff_toInt_lt]; omega
theorem own_ilt {x y : Int32} {i j : Nat} (hx : x.toInt = (i : Int)) (hy : y.toInt = (j : Int)) (q : i < j) : x < y := by rw [Int32.lt_iff_toInt_lt]; omega
end OwnList
section OwnWide
variable {p : Program} {l : Launch} {e : Env} {R : Room} {s : State} {vm0 : Vm} {k0 : Nat} {m : MethodId} {args : Array Value} {below : List Frame} {meth : Method} {c : Code} {T T' : State} {locs : List Loc} {cells slots : Nat} {Q : Option Value → Heap → List Loc → Prop} {k n : Nat} {Fin : Outcome → State → Prop} {Z : State} {a0 : Array Value} {h : Heap} {pc : Nat} {Ls : Array Slot} {rest : List Value}
theorem own_ret_w (X : Stand p l e R (s.setVm vm0) m args below meth c T locs cells slots) (hx : p.tables.exec = Jvm.exec) (hS : s.Since vm0 k0) (hk0 : k0 ≤ h.size) (hlk : meth.locks = false) {w : Value} {t : FieldType} {i : Instr} (hret : meth.sig.returnType = some t)
    (hi : (i = .ireturn ∧ (t = .int ∨ t = .boolean ∨ t = .byte ∨ t = .char ∨ t = .short) ∧ ∃ z, w = .int z) ∨ (i = .lreturn ∧ t = .long ∧ ∃ z, w = .long z) ∨ (i = .dreturn ∧ t = .double ∧ ∃ z, w = .double z) ∨ (i = .freturn ∧ t = .float ∧ ∃ z, w = .float z) ∨ (i = .areturn ∧ t.isReference = true ∧ w.isRef = true))
    (hn : narrow t w = w) (hd : decode c.code pc = .ok (i, 1)) (eT : T.heap = h) (hk : cells ≤ k) (hs : slots ≤ n) (q : Q (some w) h locs) : own_Go p e below (own_FinW s Q k n) T (mkF m pc Ls (w :: rest)) := by
  obtain ⟨fs, hr, hrun, hended, hE⟩ := X.leaveW hS (by rw [eT]; exact hk0) (v := some w) (fun h => by rw [hret] at h; cases h) hlk
  refine ⟨_, _, retOut X hx hret hn hi hd hr, hrun, hended, _, _, rfl, ?_, hE.1, hE.2.1, hE.2.2.1, hE.2.2.2.mono hk hs⟩
  show Q _ T.heap _
  rw [eT]; exact q
theorem own_retIw (X : Stand p l e R (s.setVm vm0) m args below meth c T locs cells slots) (hx : p.tables.exec = Jvm.exec) (hS : s.Since vm0 k0) (hk0 : k0 ≤ h.size) (hlk : meth.locks = false) {z : Int32} (hret : meth.sig.returnType = some .int) (hd : decode c.code pc = .ok (.ireturn, 1)) (eT : T.heap = h) (hk : cells ≤ k) (hs : slots ≤ n) (q : Q (some (.int z)) h locs) : own_Go p e below (own_FinW s Q k n) T (mkF m pc Ls (.int z :: rest)) :=
  own_ret_w X hx hS hk0 hlk hret (Or.inl ⟨rfl, Or.inl rfl, z, rfl⟩) rfl hd eT hk hs q
theorem own_retZw (X : Stand p l e R (s.setVm vm0) m args below meth c T locs cells slots) (hx : p.tables.exec = Jvm.exec) (hS : s.Since vm0 k0) (hk0 : k0 ≤ h.size) (hlk : meth.locks = false) {z : Int32} (hret : meth.sig.returnType = some .boolean) (hz : z = 0 ∨ z = 1) (hd : decode c.code pc = .ok (.ireturn, 1)) (eT : T.heap = h) (hk : cells ≤ k) (hs : slots ≤ n) (q : Q (some (.int z)) h locs) : own_Go p e below (own_FinW s Q k n) T (mkF m pc Ls (.int z :: rest)) :=
  own_ret_w X hx hS hk0 hlk hret (Or.inl ⟨rfl, Or.inr (Or.inl rfl), z, rfl⟩) (by rcases hz with rfl | rfl <;> rfl) hd eT hk hs q
theorem own_retRw (X : Stand p l e R (s.setVm vm0) m args below meth c T locs cells slots) (hx : p.tables.exec = Jvm.exec) (hS : s.Since vm0 k0) (hk0 : k0 ≤ h.size) (hlk : meth.locks = false) {w : Value} {t : FieldType} (hret : meth.sig.returnType = some t) (ht : t.isReference = true) (hw : w.isRef = true) (hn : narrow t w = w) (hd : decode c.code pc = .ok (.areturn, 1)) (eT : T.heap = h) (hk : cells ≤ k) (hs : slots ≤ n) (q : Q (some w) h locs) : own_Go p e below (own_FinW s Q k n) T (mkF m pc Ls (w :: rest)) :=
  own_ret_w X hx hS hk0 hlk hret (Or.inr (Or.inr (Or.inr (Or.inr ⟨rfl, ht, hw⟩)))) hn hd eT hk hs q
/-- ldc of a String constant: it hands out some object -/
theorem own_ldcS (X : Stand p l e R (s.setVm vm0) m args below meth c T locs cells slots) (hx : p.tables.exec = Jvm.exec) (hZ : Z.Warmed39 vm0) {own text : String} {index : Nat} (hown : vm0.findClass own = some m.cls) (w : (Cond.stringLink own index text).before a0 Z = true) (wS : ∀ a ∈ Bundle.stringAtoms, a.before a0 Z = true) (eT : T.heap = h) (hS : s.Since vm0 k0) (hk : k0 ≤ h.size) (hd : decode c.code pc = .ok (.ldc index, 2)) (nn : Nat) (hn : 4 * text.toList.length ≤ nn) (hbig : nn ≤ 536870912) (hc : cells + 2 ≤ R.cells) (hl : slots + (nn + 4) ≤ R.slots) {st0 : List Value}
    (g : ∀ (a : Addr) (T' : State) (h' : Heap) (k1 : Nat), Stand p l e R (s.setVm T'.vm) m args below meth c T' locs (cells + 2) (slots + (nn + 4)) → T'.heap = h' → Ext h h' → s.Since T'.vm k1 → k1 ≤ h'.size → Z.Warmed39 (s.setVm T'.vm).vm → (s.setVm T'.vm).vm.findClass own = some m.cls → own_Go p e below Fin T' (mkF m (pc + 2) Ls (.ref a :: st0))) : own_Go p e below Fin T (mkF m pc Ls st0) := by
  obtain ⟨a, T', h', k1, X', e', E', S', k', Z', o', st⟩ := ldcS X hx hZ hown w wS eT hS hk (g := mkF m pc Ls st0) rfl hd (n := nn) hn hbig hc hl
  exact own_by (fun t kk => st _ kk) (g a T' h' k1 X' e' E' S' k' Z' o')
end OwnWide
section OwnLit
variable {p : Program} {l : Launch} {e : Env} {R : Room} {s : State} {vm0 : Vm} {k0 : Nat} {m : MethodId} {args : Array Value} {below : List Frame} {meth : Method} {c : Code} {T T' : State} {locs : List Loc} {cells slots : Nat} {Fin : Outcome → State → Prop} {Z : State} {a0 : Array Value} {h : Heap} {pc : Nat} {Ls : Array Slot} {rest : List Value} {EL : List (String × Nat)}
/-- ldc of a String constant whose text is known -/
theorem own_ldcC (X : Stand p l e R (s.setVm vm0) m args below meth c T locs cells slots) (hx : p.tables.exec = Jvm.exec) (hZ : Z.Warmed39 vm0) {own text : String} {index : Nat} (hown : vm0.findClass own = some m.cls) (w : (Cond.stringLink own index text).before a0 Z = true) (wS : ∀ a ∈ Bundle.stringAtoms, a.before a0 Z = true) (eT : T.heap = h) (hS : s.Since vm0 k0) (hk : k0 ≤ h.size) (hEL : EW Z a0 EL) (hmem : (own, index) ∈ EL) (H : CHv Z EL vm0 h) (xs : List Int32) (z : Int32)
    (ht : (∀ c ∈ text.toList, c.toNat < 256) ∧ text.toList.map (fun c => Value.int (Jvm.Lit.byteI c.toNat.toUInt16)) = xs.map Value.int) (hz : ¬ z < 0) (hzl : z.toNatClampNeg = xs.length) (hd : decode c.code pc = .ok (.ldc index, 2)) (nn : Nat) (hn : 4 * text.toList.length ≤ nn) (hbig : nn ≤ 536870912) (hc : cells + 2 ≤ R.cells) (hl : slots + (nn + 4) ≤ R.slots) {st0 : List Value}
    (g : ∀ (a : Addr) (T' : State) (h' : Heap) (k1 : Nat) (b : Addr), Stand p l e R (s.setVm T'.vm) m args below meth c T' locs (cells + 2) (slots + (nn + 4)) → T'.heap = h' → Ext h h' → s.Since T'.vm k1 → k1 ≤ h'.size → Z.Warmed39 (s.setVm T'.vm).vm → (s.setVm T'.vm).vm.findClass own = some m.cls →
      Exa Z h' a "java/lang/String" → Fld Z h' a "java/lang/String" "coder" "B" (.int 0) → Fld Z h' a "java/lang/String" "value" "[B" (.ref b) → own_Arr Z h' b .byte (xs.map Value.int) → CHr Z EL vm0 h T'.vm h' → own_Go p e below Fin T' (mkF m (pc + 2) Ls (.ref a :: st0))) : own_Go p e below Fin T (mkF m pc Ls st0) := by
  obtain ⟨a, T', h', k1, b, kk, X', e', E', S', k', Z', o', A1, A2, A3, A4, -, -, C', -, -, st⟩ := ldcCH X hx hZ hown w wS eT hS hk hEL hmem H (z := z) ht hz (by simpa using hzl) (g := mkF m pc Ls st0) rfl hd (n := nn) hn hbig hc hl
  exact own_by (fun t kk => st _ kk) (g a T' h' k1 b X' e' E' S' k' Z' o' A1 A2 A3 (own_Arr.of_arv A4 (by simpa using hzl)) C')
/-- it returned, as Q says; String constants may have been resolved, and they bear their texts -/
def own_FinH (Z : State) (EL : List (String × Nat)) (s : State) (Q : Option Value → Heap → List Loc → Prop) (k n : Nat) (o : Outcome) (t : State) : Prop := ∃ v L, o = .returned v ∧ Q v t.heap L ∧ CHr Z EL s.vm s.heap t.vm t.heap ∧ ReturnedEndW s o t L k n
theorem own_startH {f f' : JFrame} {Q : Option Value → Heap → List Loc → Prop} {k n : Nat} (q : f = f') (g : own_Go p e below (own_FinH Z EL s Q k n) T f') : ∃ s₂ o, Steps p.tables e below (T.setTop f) s₂ ∧ s₂.status = .running ∧ Ended s₂ below o ∧ ∃ v L, o = .returned v ∧ Q v s₂.heap L ∧ CHr Z EL s.vm s.heap s₂.vm s₂.heap ∧ ReturnedEndW s o s₂ L k n := by
  subst q; exact g
theorem own_retRh {h00 : Heap} {Q : Option Value → Heap → List Loc → Prop} {k n : Nat} (X : Stand p l e R (s.setVm vm0) m args below meth c T locs cells slots) (hx : p.tables.exec = Jvm.exec) (hS : s.Since vm0 k0) (hk0 : k0 ≤ h.size) (hZ : Z.Warmed39 vm0) (hEL : EW Z a0 EL) (hs0 : s.heap = h00) (HR : CHr Z EL s.vm h00 vm0 h) (hlk : meth.locks = false) {w : Value} {t : FieldType} (hret : meth.sig.returnType = some t) (ht : t.isReference = true) (hw : w.isRef = true) (hn : narrow t w = w) (hd : decode c.code pc = .ok (.areturn, 1)) (eT : T.heap = h) (hk : cells ≤ k) (hs : slots ≤ n) (q : Q (some w) h locs) : own_Go p e below (own_FinH Z EL s Q k n) T (mkF m pc Ls (w :: rest)) := by
  obtain ⟨fs, hr, hrun, hended, hE⟩ := X.leaveW hS (by rw [eT]; exact hk0) (v := some w) (fun h => by rw [hret] at h; cases h) hlk
  have C1 := HR.trans (CHv.at X hZ hEL HR.1)
  refine ⟨_, _, retOut X hx hret hn (Or.inr (Or.inr (Or.inr (Or.inr ⟨rfl, ht, hw⟩)))) hd hr, hrun, hended, _, _, rfl, ?_, ?_, hE.1, hE.2.1, hE.2.2.1, hE.2.2.2.mono hk hs⟩
  · show Q _ T.heap _
    rw [eT]; exact q
  · show CHr Z EL s.vm s.heap T.vm T.heap
    rw [eT, hs0]; exact C1
/-- a static call of a callee that loads String constants -/
theorem own_callSH (X : Stand p l e R (s.setVm vm0) m args below meth c T locs cells slots) (hx : p.tables.exec = Jvm.exec) (hZ : Z.Warmed39 vm0) {own : String} {index : Nat} {y : MethodName} {bytes : ByteArray} {maxL W : Nat} {ret : Option FieldType} {rm : Room} {Qc : Option Value → Heap → List Loc → Prop}
    (hown : vm0.findClass own = some m.cls) (w1 : (Cond.methodLink own index y).before a0 Z = true) (w2 : (Cond.static y).before a0 Z = true) (w3 : (Cond.initialized y.cls).before a0 Z = true) (w4 : (Cond.code y bytes maxL ret).before a0 Z = true)
    (hy : y.cls ≠ "java/lang/invoke/MethodHandle" ∧ y.cls ≠ "java/lang/invoke/VarHandle") (hml : Ls.size = c.maxLocals) {argsL : List Value} {ps : List FieldType} {rt : Option FieldType} (pd : parseMethodDescriptor y.desc = some ⟨ps, rt⟩) (hlen : argsL.length = ps.length)
    (hM : MetFree l y (head1 [Cond.code y bytes maxL ret] rm) (fun a U => a = argsL.toArray ∧ Z.Warmed39 U.vm ∧ U.heap = h ∧ CHv Z EL U.vm h) (fun _ _ _ _ _ => True) (fun _ U o U' => ∃ v L, o = .returned v ∧ Qc v U'.heap L ∧ CHr Z EL U.vm U.heap U'.vm U'.heap ∧ ReturnedEndW U o U' L rm.cells rm.slots))
    (hf : rm.frames + 1 ≤ R.frames) (hl : W + (maxL + 11) + rm.locals ≤ R.locals) (hW : (rest.map fun v => v.category).sum ≤ W) (hc : cells + rm.cells ≤ R.cells) (hs : slots + rm.slots ≤ R.slots) (eT : T.heap = h) {st : List Value} (hst : st = argsL.reverse ++ rest) (hd : decode c.code pc = .ok (.invokestatic index, 3))
    (hS : s.Since vm0 k0) (hk : k0 ≤ h.size) (hEL : EW Z a0 EL) (H : CHv Z EL vm0 h)
    (g : ∀ (v : Option Value) (T' : State) (L : List Loc), Stand p l e R (s.setVm T'.vm) m args below meth c T' (locs ++ L) (cells + rm.cells) (slots + rm.slots) → s.Since T'.vm T'.heap.size → Z.Warmed39 (s.setVm T'.vm).vm → (s.setVm T'.vm).vm.findClass own = some m.cls → Qc v T'.heap L → CHr Z EL vm0 h T'.vm T'.heap → own_Go p e below Fin T' (mkF m (pc + 3) Ls (v.toList ++ rest))) :
    own_Go p e below Fin T (mkF m pc Ls st) := by
  subst hst
  have hZ' : Z.Warmed39 (s.setVm vm0).vm := hZ
  obtain ⟨v, _, ⟨T2, L2, k2, n2⟩, -, X2, S2, g2, ⟨Lc2, hQ2, l2, y2, z2, C2⟩, st2⟩ := callSS X hx (y := y) hown (mvT hZ' w1) (mvT hZ' w2) (mvT hZ' w3) (mvT hZ' w4) hy (backOfSH (s := s) (W := W) hM hZ w4 w3 hf hl hEL H) (g := (mkF m pc Ls (argsL.reverse ++ rest))) rfl hml (argsL := argsL) (rest := rest) (lenOf pd hlen) rfl (by show 2 * 0 + _ ≤ _; omega) hd (fun _ _ => ⟨rfl, eT, hc, hs⟩)
  dsimp only [Pt.U, Pt.locs, Pt.cells, Pt.slots] at X2 S2 g2 l2 y2 z2 st2 hQ2 C2
  subst l2 y2 z2
  obtain ⟨X3, S3, Z3, o3⟩ := rebS hS (Nat.le_trans hk (Nat.le_of_eq (by rw [eT]))) X2 S2 g2 hZ' hown
  exact own_by (fun t kk => st2.trans kk) (g v T2 Lc2 X3 S3 Z3 o3 hQ2 C2)
end OwnLit
section OwnStart
variable {s : State} {args : Array Value} {t : Term} {a : Addr} {ty : FieldType} {cl : Cell}
theorem own_lenI {x : Int32} (h : (Cond.eq (Term.length t) (.int x)).value args s none s [] = some true) (ev : t.eval args s none [] s = some (.ref a)) (A : Arr s s.heap a cl ty) : cl.slots.size < 2 ^ 31 ∧ cl.slots.size.toInt32 = x := by
  have q := own_eqI h
  have ha : s.arrayAt? a = some cl := Arr.fin (Vm.Alike.refl _) A
  by_cases hl : cl.slots.size < 2 ^ 31
  · rw [len_f ev ha hl] at q
    exact ⟨hl, by simpa using q⟩
  · simp [Term.eval, ev, ha, hl] at q
theorem own_elemI {j x : Int32} (h : (Cond.eq (Term.elem t (.int j)) (.int x)).value args s none s [] = some true) (ev : t.eval args s none [] s = some (.ref a)) (A : Arr s s.heap a cl ty) (hj : ¬ j < 0) : cl.slots[j.toNatClampNeg]? = some (.int x) := by
  have q := own_eqI h
  have ha : s.arrayAt? a = some cl := Arr.fin (Vm.Alike.refl _) A
  rwa [elem_f ev rfl ha hj] at q
theorem own_fldI {O nm d : String} {x : Int32} (ev : t.eval args s none [] s = some (.ref a)) (h : (Cond.eq (Term.field t O nm d) (.int x)).value args s none s [] = some true) : Fld s s.heap a O nm d (.int x) :=
  Fld.start ((fld_at ev).symm.trans (own_eqI h))
theorem own_fldR {O nm d : String} {b : Addr} (ev : t.eval args s none [] s = some (.ref a)) (h : (Term.field t O nm d).eval args s none [] s = some (.ref b)) : Fld s s.heap a O nm d (.ref b) :=
  Fld.start ((fld_at ev).symm.trans h)
theorem own_arrS {xs : List Int32} (hf : Fit s) (A : Arr s s.heap a cl ty) (hl : cl.slots.size < 2 ^ 31 ∧ cl.slots.size.toInt32 = xs.length.toInt32) (hx : xs.length < 2 ^ 31) (H : HasL cl 0 (xs.map Value.int)) : own_Arr s s.heap a ty (xs.map Value.int) := by
  have e1 : xs.length.toInt32.toInt = xs.length := len_toInt hx
  have e2 := own_idx e1
  exact own_Arr.of_arv (Arv.start (dv := .int 0) hf A hl.1 hl.2 e2.2 (by rw [e2.1]; simp) H) (by rw [e2.1]; simp)
theorem own_notI {x y : Int32} (ev : t.eval args s none [] s = some (.int x)) (h : (Cond.not (Cond.eq t (.int y))).value args s none s [] = some true) : ¬ x = y := by
  have q : (Term.int y).eval args s none [] s = some (.int y) := rfl
  simpa [Cond.value, ev, q] using h
end OwnStart
theorem pn_1 : plainName "com/example/kediri/kediri/jpql/Expression$Operator" = true := by first | (simp [plainName, overriddenIn]; done) | decide +kernel
theorem d1_0 : decode prog_42_method_5_code 0 = .ok (.aload_n 0, 1) := by decide +kernel
theorem d1_1 : decode prog_42_method_5_code 1 = .ok (.getstatic 3, 3) := by decide +kernel
theorem d1_4 : decode prog_42_method_5_code 4 = .ok (.if_acmp .eq 10, 3) := by decide +kernel
theorem d1_14 : decode prog_42_method_5_code 14 = .ok (.iconst 1, 1) := by decide +kernel
theorem d1_15 : decode prog_42_method_5_code 15 = .ok (.goto 4, 3) := by decide +kernel
theorem d1_19 : decode prog_42_method_5_code 19 = .ok (.ireturn, 1) := by decide +kernel
theorem d1_7 : decode prog_42_method_5_code 7 = .ok (.aload_n 0, 1) := by decide +kernel
theorem d1_8 : decode prog_42_method_5_code 8 = .ok (.getstatic 7, 3) := by decide +kernel
theorem d1_11 : decode prog_42_method_5_code 11 = .ok (.if_acmp .ne 7, 3) := by decide +kernel
theorem d1_18 : decode prog_42_method_5_code 18 = .ok (.iconst 0, 1) := by decide +kernel
theorem d2_0 : decode prog_42_method_4_code 0 = .ok (.aload_n 0, 1) := by decide +kernel
theorem d2_1 : decode prog_42_method_4_code 1 = .ok (.getfield 41, 3) := by decide +kernel
theorem d2_4 : decode prog_42_method_4_code 4 = .ok (.areturn, 1) := by decide +kernel
theorem pn_4 : plainName "java/lang/StringLatin1" = true := by first | (simp [plainName, overriddenIn]; done) | decide +kernel
theorem d4_9 : decode jdk_43_method_13_code 9 = .ok (.iload_n 2, 1) := by decide +kernel
theorem d4_10 : decode jdk_43_method_13_code 10 = .ok (.aload_n 0, 1) := by decide +kernel
theorem d4_11 : decode jdk_43_method_13_code 11 = .ok (.arraylength, 1) := by decide +kernel
theorem d4_12 : decode jdk_43_method_13_code 12 = .ok (.if_icmp .ge 20, 3) := by decide +kernel
theorem d4_32 : decode jdk_43_method_13_code 32 = .ok (.iconst 1, 1) := by decide +kernel
theorem d4_33 : decode jdk_43_method_13_code 33 = .ok (.ireturn, 1) := by decide +kernel
theorem d4_15 : decode jdk_43_method_13_code 15 = .ok (.aload_n 0, 1) := by decide +kernel
theorem d4_16 : decode jdk_43_method_13_code 16 = .ok (.iload_n 2, 1) := by decide +kernel
theorem d4_17 : decode jdk_43_method_13_code 17 = .ok (.baload, 1) := by decide +kernel
theorem d4_18 : decode jdk_43_method_13_code 18 = .ok (.aload_n 1, 1) := by decide +kernel
theorem d4_19 : decode jdk_43_method_13_code 19 = .ok (.iload_n 2, 1) := by decide +kernel
theorem d4_20 : decode jdk_43_method_13_code 20 = .ok (.baload, 1) := by decide +kernel
theorem d4_21 : decode jdk_43_method_13_code 21 = .ok (.if_icmp .eq 5, 3) := by decide +kernel
theorem d4_26 : decode jdk_43_method_13_code 26 = .ok (.iinc 2 1, 3) := by decide +kernel
theorem d4_29 : decode jdk_43_method_13_code 29 = .ok (.goto (-20), 3) := by decide +kernel
theorem d4_24 : decode jdk_43_method_13_code 24 = .ok (.iconst 0, 1) := by decide +kernel
theorem d4_25 : decode jdk_43_method_13_code 25 = .ok (.ireturn, 1) := by decide +kernel
theorem d4_0 : decode jdk_43_method_13_code 0 = .ok (.aload_n 0, 1) := by decide +kernel
theorem d4_1 : decode jdk_43_method_13_code 1 = .ok (.arraylength, 1) := by decide +kernel
theorem d4_2 : decode jdk_43_method_13_code 2 = .ok (.aload_n 1, 1) := by decide +kernel
theorem d4_3 : decode jdk_43_method_13_code 3 = .ok (.arraylength, 1) := by decide +kernel
theorem d4_4 : decode jdk_43_method_13_code 4 = .ok (.if_icmp .ne 30, 3) := by decide +kernel
theorem d4_34 : decode jdk_43_method_13_code 34 = .ok (.iconst 0, 1) := by decide +kernel
theorem d4_35 : decode jdk_43_method_13_code 35 = .ok (.ireturn, 1) := by decide +kernel
theorem d4_7 : decode jdk_43_method_13_code 7 = .ok (.iconst 0, 1) := by decide +kernel
theorem d4_8 : decode jdk_43_method_13_code 8 = .ok (.istore_n 2, 1) := by decide +kernel
theorem pn_3 : plainName "java/lang/String" = true := by first | (simp [plainName, overriddenIn]; done) | decide +kernel
theorem d3_0 : decode jdk_42_method_66_code 0 = .ok (.aload_n 0, 1) := by decide +kernel
theorem d3_1 : decode jdk_42_method_66_code 1 = .ok (.aload_n 1, 1) := by decide +kernel
theorem d3_2 : decode jdk_42_method_66_code 2 = .ok (.if_acmp .ne 5, 3) := by decide +kernel
theorem d3_7 : decode jdk_42_method_66_code 7 = .ok (.aload_n 1, 1) := by decide +kernel
theorem d3_8 : decode jdk_42_method_66_code 8 = .ok (.instanceof 10, 3) := by decide +kernel
theorem d3_11 : decode jdk_42_method_66_code 11 = .ok (.ifCond .eq 43, 3) := by decide +kernel
theorem d3_14 : decode jdk_42_method_66_code 14 = .ok (.aload_n 1, 1) := by decide +kernel
theorem d3_15 : decode jdk_42_method_66_code 15 = .ok (.checkcast 10, 3) := by decide +kernel
theorem d3_18 : decode jdk_42_method_66_code 18 = .ok (.astore_n 2, 1) := by decide +kernel
theorem d3_19 : decode jdk_42_method_66_code 19 = .ok (.getstatic 38, 3) := by decide +kernel
theorem d3_22 : decode jdk_42_method_66_code 22 = .ok (.ifCond .eq 14, 3) := by decide +kernel
theorem d3_25 : decode jdk_42_method_66_code 25 = .ok (.aload_n 0, 1) := by decide +kernel
theorem d3_26 : decode jdk_42_method_66_code 26 = .ok (.getfield 15, 3) := by decide +kernel
theorem d3_29 : decode jdk_42_method_66_code 29 = .ok (.aload_n 2, 1) := by decide +kernel
theorem d3_30 : decode jdk_42_method_66_code 30 = .ok (.getfield 15, 3) := by decide +kernel
theorem d3_33 : decode jdk_42_method_66_code 33 = .ok (.if_icmp .ne 21, 3) := by decide +kernel
theorem d3_36 : decode jdk_42_method_66_code 36 = .ok (.aload_n 0, 1) := by decide +kernel
theorem d3_37 : decode jdk_42_method_66_code 37 = .ok (.getfield 9, 3) := by decide +kernel
theorem d3_40 : decode jdk_42_method_66_code 40 = .ok (.aload_n 2, 1) := by decide +kernel
theorem d3_41 : decode jdk_42_method_66_code 41 = .ok (.getfield 9, 3) := by decide +kernel
theorem d3_44 : decode jdk_42_method_66_code 44 = .ok (.invokestatic 541, 3) := by decide +kernel
theorem pd_3 : parseMethodDescriptor "([B[B)Z" = some ⟨[(.array .byte), (.array .byte)], some .boolean⟩ := by decide +kernel
theorem d3_47 : decode jdk_42_method_66_code 47 = .ok (.ifCond .eq 7, 3) := by decide +kernel
theorem d3_54 : decode jdk_42_method_66_code 54 = .ok (.iconst 0, 1) := by decide +kernel
theorem d3_55 : decode jdk_42_method_66_code 55 = .ok (.ireturn, 1) := by decide +kernel
theorem d3_50 : decode jdk_42_method_66_code 50 = .ok (.iconst 1, 1) := by decide +kernel
theorem d3_51 : decode jdk_42_method_66_code 51 = .ok (.goto 4, 3) := by decide +kernel
theorem d3_5 : decode jdk_42_method_66_code 5 = .ok (.iconst 1, 1) := by decide +kernel
theorem d3_6 : decode jdk_42_method_66_code 6 = .ok (.ireturn, 1) := by decide +kernel
theorem pn_0 : plainName "com/example/kediri/kediri/jpql/OperatorIsEqualityPinLaw" = true := by first | (simp [plainName, overriddenIn]; done) | decide +kernel
theorem pd_0 : parseMethodDescriptor "()Z" = some ⟨[], some .boolean⟩ := by decide +kernel
theorem pd_1 : parseMethodDescriptor "()Ljava/lang/String;" = some ⟨[], some (.object "java/lang/String")⟩ := by decide +kernel
theorem pd_2 : parseMethodDescriptor "(Ljava/lang/Object;)Z" = some ⟨[(.object "java/lang/Object")], some .boolean⟩ := by decide +kernel
def own_eqv (xs ys : List Int32) : Int32 := if xs = ys then 1 else 0
theorem own_mapint {xs ys : List Int32} (h : xs.map Value.int = ys.map Value.int) : xs = ys := by
  induction xs generalizing ys with
  | nil => cases ys with
    | nil => rfl
    | cons y ys => simp at h
  | cons x xs ih => cases ys with
    | nil => simp at h
    | cons y ys =>
      simp at h
      rw [h.1, ih (by simpa using h.2)]
theorem own_Arr.uniq {Z : State} {h : Heap} {a : Addr} {ty ty' : FieldType} {vs ws : List Value} (F : own_Arr Z h a ty vs) (G : own_Arr Z h a ty' ws) : vs = ws := by
  obtain ⟨c1, A1, r1, -⟩ := F
  obtain ⟨c2, A2, r2, -⟩ := G
  cases A1.1.symm.trans A2.1
  have q := r1.symm.trans r2
  simpa using q
theorem own_Fld_uniq {Z : State} {h : Heap} {a : Addr} {C n d : String} {v w : Value} (F : Fld Z h a C n d v) (G : Fld Z h a C n d w) : v = w :=
  Decidable.byContradiction fun q => Fld.ne F G q rfl
theorem own_At_all : ∀ (xs : List Int32) (ys : List Int32), own_At ((ys ++ xs).map Value.int) ys.length xs
  | [], ys => trivial
  | x :: xs, ys => by
    refine ⟨by simp, ?_⟩
    have q := own_At_all xs (ys ++ [x])
    simpa using q
def QLe (xs ys : List Int32) (h0 : Heap) (n0 : Nat) (v : Option Value) (h : Heap) (L : List Loc) : Prop := v = some (.int (own_eqv xs ys)) ∧ Fr n0 L ∧ h = h0
theorem own_l6 {k : Int32} (h0 : 0 ≤ k.toInt) (h1 : k.toInt < 6) : k = 0 ∨ k = 1 ∨ k = 2 ∨ k = 3 ∨ k = 4 ∨ k = 5 := by
  simp only [← Int32.toInt_inj, show (0 : Int32).toInt = 0 from by decide, show (1 : Int32).toInt = 1 from by decide, show (2 : Int32).toInt = 2 from by decide, show (3 : Int32).toInt = 3 from by decide, show (4 : Int32).toInt = 4 from by decide, show (5 : Int32).toInt = 5 from by decide]
  omega
theorem own_k6 (x : Int32) : 0 ≤ ((x &&& 2147483647) % 6).toInt ∧ ((x &&& 2147483647) % 6).toInt < 6 := by
  have e1 : (x &&& 2147483647).toInt = x.toInt % 2 ^ 31 := Jvm.Kit.i32_mask x 2147483647 (k := 31) (by decide) (by decide)
  have k5 : (6 : Int32).toInt = 6 := by decide
  have e2 := Jvm.Kit.i32_rem_nonneg (x := x &&& 2147483647) (y := 6) (by omega)
  rw [e2, k5]; omega
def own_ie (a b d : Addr) : Int32 := if a = b ∨ a = d then 1 else 0
def Q1 (a b d : Addr) (h0 : Heap) (n0 : Nat) (v : Option Value) (h : Heap) (L : List Loc) : Prop := v = some (.int (own_ie a b d)) ∧ Fr n0 L ∧ h = h0
def Q2 (a : Addr) (h0 : Heap) (n0 : Nat) (v : Option Value) (h : Heap) (L : List Loc) : Prop := v = some (.ref a) ∧ Fr n0 L ∧ h = h0
def Q0 (n0 : Nat) (v : Option Value) (h : Heap) (L : List Loc) : Prop := v = some (.int (1 : Int32)) ∧ Fr n0 L
theorem own_strs {Z : State} {a0 : Array Value} (hw : ∀ d ∈ tables_1, d.before a0 Z = true) : ∀ a ∈ Bundle.stringAtoms, a.before a0 Z = true := by
  intro a ha
  simp only [Bundle.stringAtoms, List.mem_cons, List.not_mem_nil, or_false] at ha
  rcases ha with rfl | rfl | rfl | rfl | rfl | rfl | rfl
  · exact (hw _ (List.mem_of_getElem? (i := 18) rfl))
  · exact (hw _ (List.mem_of_getElem? (i := 19) rfl))
  · exact (hw _ (List.mem_of_getElem? (i := 20) rfl))
  · exact (hw _ (List.mem_of_getElem? (i := 21) rfl))
  · exact (hw _ (List.mem_of_getElem? (i := 22) rfl))
  · exact (hw _ (List.mem_of_getElem? (i := 23) rfl))
  · exact (hw _ (List.mem_of_getElem? (i := 24) rfl))
theorem ef_1 (m : MethodId) (a1 : Addr) : entryFrame m #[(.ref a1)] 1 = mkF m 0 #[.val (.ref a1)] [] := by first | (simp [entryFrame, mkF, argsToLocals, Value.category]; done) | rfl
set_option maxRecDepth 65536 in
set_option maxHeartbeats 40000000 in
theorem rm1 (l : Launch) (Z : State) (a0 : Array Value) (hw : ∀ d ∈ tables_1, d.before a0 Z = true) (ws : List Jvm.Cond) (a1 : Addr) (a_EQUALS : Addr) (a_NOT_EQUALS : Addr) (h0 : Heap) (n0 : Nat) (Z0 : n0 ≤ h0.size) (S_EQUALS : Sta Z h0 "com/example/kediri/kediri/jpql/Expression$Operator" "EQUALS" "Lcom/example/kediri/kediri/jpql/Expression$Operator;" (.ref a_EQUALS)) (S_NOT_EQUALS : Sta Z h0 "com/example/kediri/kediri/jpql/Expression$Operator" "NOT_EQUALS" "Lcom/example/kediri/kediri/jpql/Expression$Operator;" (.ref a_NOT_EQUALS)) :
    MetFree l (⟨"com/example/kediri/kediri/jpql/Expression$Operator", "isEquality", "()Z"⟩ : MethodName) (head1 (Jvm.Cond.code (⟨"com/example/kediri/kediri/jpql/Expression$Operator", "isEquality", "()Z"⟩ : MethodName) prog_42_method_5_code 1 (some .boolean) :: ws) ({ frames := 0, cells := 0, slots := 0, locals := 0 } : Room)) (fun a U => a = #[(.ref a1)] ∧ Z.Warmed39 U.vm ∧ U.heap = h0) (fun _ _ _ _ _ => True) (fun _ U o U' => ∃ v L, o = .returned v ∧ Q1 a1 a_EQUALS a_NOT_EQUALS h0 n0 v U'.heap L ∧ FrameEnd U o U' L ({ frames := 0, cells := 0, slots := 0, locals := 0 } : Room).cells ({ frames := 0, cells := 0, slots := 0, locals := 0 } : Room).slots) := by
  refine MetFree.of_bodySF (plainFor_of_name pn_1) hisR ?_
  intro p e s m args below meth c s₁ Bd hml0 hP hK
  obtain ⟨rfl, hZ, hh⟩ := hP
  have hx := Bd.exec
  have hby := Bd.bytes
  have hml : c.maxLocals = 1 := hml0
  have hown : s.vm.findClass "com/example/kediri/kediri/jpql/Expression$Operator" = some m.cls := findClass_of_methodNamed Bd.named
  have hnm := (name_of_methodNamed Bd.named Bd.method).1
  have hlk : meth.locks = false := BodyLoose.notSynchronized Bd
  have X0 : Stand p l e ({ frames := 0, cells := 0, slots := 0, locals := 0 } : Room) s m #[(.ref a1)] below meth c s₁ [] 0 0 := Stand.of_body Bd
  have e0 : s₁.heap = h0 := by rw [← hh, Bd.state]; rfl
  have N0 := Fr.nil n0
  refine own_start (Q := Q1 a1 a_EQUALS a_NOT_EQUALS h0 n0) (ef_1 m a1) ?_
  show own_Go p e below _ s₁ (mkF m 0 #[.val (.ref a1)] [])
  refine own_by (fun t_ k_ => XS.aloadN X0.here hx rfl (hb hby d1_0) rfl rfl k_) ?_
  show own_Go p e below _ s₁ (mkF m 1 #[.val (.ref a1)] [(.ref a1)])
  refine own_getS X0 hx hZ hown (hw _ (List.mem_of_getElem? (i := 9) rfl)) Via.refl e0 S_EQUALS (hb hby d1_1) ?_
  intro T1 X1 e1
  show own_Go p e below _ T1 (mkF m 4 #[.val (.ref a1)] [(.ref a_EQUALS), (.ref a1)])
  refine own_acmpEq X1 hx 14 (hb hby d1_4) (by decide) (by decide) (fun (hc4 : a1 = a_EQUALS) => ?_) (fun (hc4 : ¬ a1 = a_EQUALS) => ?_)
  · show own_Go p e below _ T1 (mkF m 14 #[.val (.ref a1)] [])
    refine own_by (fun t_ k_ => XS.iconst X1.here hx rfl (hb hby d1_14) k_) ?_
    show own_Go p e below _ T1 (mkF m 15 #[.val (.ref a1)] [(.int (1 : Int32))])
    refine own_by (fun t_ k_ => XS.goto X1.here hx rfl (pc0 := 15) (pc' := 19) rfl (hb hby d1_15) (by decide) (by decide) k_) ?_
    show own_Go p e below _ T1 (mkF m 19 #[.val (.ref a1)] [(.int (1 : Int32))])
    refine own_retZ X1 hx hlk Bd.returns (by decide) (hb hby d1_19) e1 (by decide) (by decide) ?_
    exact ⟨by simp [own_ie, hc4], N0, rfl⟩
  · show own_Go p e below _ T1 (mkF m 7 #[.val (.ref a1)] [])
    refine own_by (fun t_ k_ => XS.aloadN X1.here hx rfl (hb hby d1_7) rfl rfl k_) ?_
    show own_Go p e below _ T1 (mkF m 8 #[.val (.ref a1)] [(.ref a1)])
    refine own_getS X1 hx hZ hown (hw _ (List.mem_of_getElem? (i := 41) rfl)) Via.refl e1 S_NOT_EQUALS (hb hby d1_8) ?_
    intro T2 X2 e2
    show own_Go p e below _ T2 (mkF m 11 #[.val (.ref a1)] [(.ref a_NOT_EQUALS), (.ref a1)])
    refine own_acmpNe X2 hx 18 (hb hby d1_11) (by decide) (by decide) (fun (hc11 : ¬ a1 = a_NOT_EQUALS) => ?_) (fun (hc11 : a1 = a_NOT_EQUALS) => ?_)
    · show own_Go p e below _ T2 (mkF m 18 #[.val (.ref a1)] [])
      refine own_by (fun t_ k_ => XS.iconst X2.here hx rfl (hb hby d1_18) k_) ?_
      show own_Go p e below _ T2 (mkF m 19 #[.val (.ref a1)] [(.int (0 : Int32))])
      refine own_retZ X2 hx hlk Bd.returns (by decide) (hb hby d1_19) e2 (by decide) (by decide) ?_
      exact ⟨by simp [own_ie, hc4, hc11], N0, rfl⟩
    · show own_Go p e below _ T2 (mkF m 14 #[.val (.ref a1)] [])
      refine own_by (fun t_ k_ => XS.iconst X2.here hx rfl (hb hby d1_14) k_) ?_
      show own_Go p e below _ T2 (mkF m 15 #[.val (.ref a1)] [(.int (1 : Int32))])
      refine own_by (fun t_ k_ => XS.goto X2.here hx rfl (pc0 := 15) (pc' := 19) rfl (hb hby d1_15) (by decide) (by decide) k_) ?_
      show own_Go p e below _ T2 (mkF m 19 #[.val (.ref a1)] [(.int (1 : Int32))])
      refine own_retZ X2 hx hlk Bd.returns (by decide) (hb hby d1_19) e2 (by decide) (by decide) ?_
      exact ⟨by simp [own_ie, hc4, hc11], N0, rfl⟩
theorem ef_2 (m : MethodId) (a1 : Addr) : entryFrame m #[(.ref a1)] 1 = mkF m 0 #[.val (.ref a1)] [] := by first | (simp [entryFrame, mkF, argsToLocals, Value.category]; done) | rfl
set_option maxRecDepth 65536 in
set_option maxHeartbeats 40000000 in
theorem rm2 (l : Launch) (Z : State) (a0 : Array Value) (hw : ∀ d ∈ tables_1, d.before a0 Z = true) (ws : List Jvm.Cond) (a1 : Addr) (s1 : Addr) (h0 : Heap) (n0 : Nat) (Z0 : n0 ≤ h0.size) (F_sym : Fld Z h0 a1 "com/example/kediri/kediri/jpql/Expression$Operator" "symbol" "Ljava/lang/String;" (.ref s1)) :
    MetFree l (⟨"com/example/kediri/kediri/jpql/Expression$Operator", "symbol", "()Ljava/lang/String;"⟩ : MethodName) (head1 (Jvm.Cond.code (⟨"com/example/kediri/kediri/jpql/Expression$Operator", "symbol", "()Ljava/lang/String;"⟩ : MethodName) prog_42_method_4_code 1 (some (.object "java/lang/String")) :: ws) ({ frames := 0, cells := 0, slots := 0, locals := 0 } : Room)) (fun a U => a = #[(.ref a1)] ∧ Z.Warmed39 U.vm ∧ U.heap = h0) (fun _ _ _ _ _ => True) (fun _ U o U' => ∃ v L, o = .returned v ∧ Q2 s1 h0 n0 v U'.heap L ∧ FrameEnd U o U' L ({ frames := 0, cells := 0, slots := 0, locals := 0 } : Room).cells ({ frames := 0, cells := 0, slots := 0, locals := 0 } : Room).slots) := by
  refine MetFree.of_bodySF (plainFor_of_name pn_1) hisR ?_
  intro p e s m args below meth c s₁ Bd hml0 hP hK
  obtain ⟨rfl, hZ, hh⟩ := hP
  have hx := Bd.exec
  have hby := Bd.bytes
  have hml : c.maxLocals = 1 := hml0
  have hown : s.vm.findClass "com/example/kediri/kediri/jpql/Expression$Operator" = some m.cls := findClass_of_methodNamed Bd.named
  have hnm := (name_of_methodNamed Bd.named Bd.method).1
  have hlk : meth.locks = false := BodyLoose.notSynchronized Bd
  have X0 : Stand p l e ({ frames := 0, cells := 0, slots := 0, locals := 0 } : Room) s m #[(.ref a1)] below meth c s₁ [] 0 0 := Stand.of_body Bd
  have e0 : s₁.heap = h0 := by rw [← hh, Bd.state]; rfl
  have N0 := Fr.nil n0
  refine own_start (Q := Q2 s1 h0 n0) (ef_2 m a1) ?_
  show own_Go p e below _ s₁ (mkF m 0 #[.val (.ref a1)] [])
  refine own_by (fun t_ k_ => XS.aloadN X0.here hx rfl (hb hby d2_0) rfl rfl k_) ?_
  show own_Go p e below _ s₁ (mkF m 1 #[.val (.ref a1)] [(.ref a1)])
  refine own_getF X0 hx hZ hown (hw _ (List.mem_of_getElem? (i := 15) rfl)) Via.refl e0 F_sym (hb hby d2_1) ?_
  intro T1 X1 e1
  show own_Go p e below _ T1 (mkF m 4 #[.val (.ref a1)] [(.ref s1)])
  refine own_retR X1 hx hlk Bd.returns rfl rfl rfl (hb hby d2_4) e1 (by decide) (by decide) ?_
  exact ⟨rfl, N0, rfl⟩
theorem ef_4 (m : MethodId) (a1 : Addr) (a2 : Addr) : entryFrame m #[(.ref a1), (.ref a2)] 3 = mkF m 0 #[.val (.ref a1), .val (.ref a2), .unset] [] := by first | (simp [entryFrame, mkF, argsToLocals, Value.category]; done) | rfl
set_option maxRecDepth 65536 in
set_option maxHeartbeats 40000000 in
theorem rm4 (l : Launch) (Z : State) (a0 : Array Value) (hw : ∀ d ∈ tables_1, d.before a0 Z = true) (ws : List Jvm.Cond) (a1 : Addr) (a2 : Addr) (xs : List Int32) (ys : List Int32) (h0 : Heap) (n0 : Nat) (Z0 : n0 ≤ h0.size) (V_a1_0 : own_Arr Z h0 a1 .byte (xs.map Value.int)) (V_a2_0 : own_Arr Z h0 a2 .byte (ys.map Value.int)) :
    MetFree l (⟨"java/lang/StringLatin1", "equals", "([B[B)Z"⟩ : MethodName) (head1 (Jvm.Cond.code (⟨"java/lang/StringLatin1", "equals", "([B[B)Z"⟩ : MethodName) jdk_43_method_13_code 3 (some .boolean) :: ws) ({ frames := 0, cells := 0, slots := 0, locals := 0 } : Room)) (fun a U => a = #[(.ref a1), (.ref a2)] ∧ Z.Warmed39 U.vm ∧ U.heap = h0) (fun _ _ _ _ _ => True) (fun _ U o U' => ∃ v L, o = .returned v ∧ QLe xs ys h0 n0 v U'.heap L ∧ FrameEnd U o U' L ({ frames := 0, cells := 0, slots := 0, locals := 0 } : Room).cells ({ frames := 0, cells := 0, slots := 0, locals := 0 } : Room).slots) := by
  refine MetFree.of_bodySF (plainFor_of_name pn_4) hisR ?_
  intro p e s m args below meth c s₁ Bd hml0 hP hK
  obtain ⟨rfl, hZ, hh⟩ := hP
  have hx := Bd.exec
  have hby := Bd.bytes
  have hml : c.maxLocals = 3 := hml0
  have hown : s.vm.findClass "java/lang/StringLatin1" = some m.cls := findClass_of_methodNamed Bd.named
  have hnm := (name_of_methodNamed Bd.named Bd.method).1
  have hlk : meth.locks = false := BodyLoose.notSynchronized Bd
  have X0 : Stand p l e ({ frames := 0, cells := 0, slots := 0, locals := 0 } : Room) s m #[(.ref a1), (.ref a2)] below meth c s₁ [] 0 0 := Stand.of_body Bd
  have e0 : s₁.heap = h0 := by rw [← hh, Bd.state]; rfl
  have N0 := Fr.nil n0
  refine own_start (Q := QLe xs ys h0 n0) (ef_4 m a1 a2) ?_
  have hl1 : xs.length < 2 ^ 31 := by simpa using V_a1_0.len
  have hl2 : ys.length < 2 ^ 31 := by simpa using V_a2_0.len
  have el1 : (xs.map Value.int).length.toInt32.toInt = (xs.length : Int) := by rw [len_toInt (by simpa using hl1)]; simp
  have el2 : (ys.map Value.int).length.toInt32.toInt = (ys.length : Int) := by rw [len_toInt (by simpa using hl2)]; simp
  have lp : ∀ (D E : List Int32) (T : State) (i : Int32) (k : Nat), Stand p l e ({ frames := 0, cells := 0, slots := 0, locals := 0 } : Room) s m #[(.ref a1), (.ref a2)] below meth c T [] 0 0 → T.heap = h0 → i.toInt = (k : Int) → own_At (xs.map Value.int) k D → own_At (ys.map Value.int) k E → D.length = E.length → xs.length = k + D.length → (xs = ys ↔ D = E) → own_Go p e below (own_Fin s (QLe xs ys h0 n0) ({ frames := 0, cells := 0, slots := 0, locals := 0 } : Room).cells ({ frames := 0, cells := 0, slots := 0, locals := 0 } : Room).slots) T (mkF m 9 #[.val (.ref a1), .val (.ref a2), .val (.int i)] []) := by
    intro D
    induction D with
    | nil =>
      intro E T i k X eT hi hD hE hlen hxl hiff
      cases E with
      | cons f E => simp at hlen
      | nil =>
        show own_Go p e below _ T (mkF m 9 #[.val (.ref a1), .val (.ref a2), .val (.int i)] [])
        refine own_by (fun t_ k_ => XS.iloadN X.here hx rfl (hb hby d4_9) rfl k_) ?_
        show own_Go p e below _ T (mkF m 10 #[.val (.ref a1), .val (.ref a2), .val (.int i)] [(.int i)])
        refine own_by (fun t_ k_ => XS.aloadN X.here hx rfl (hb hby d4_10) rfl rfl k_) ?_
        show own_Go p e below _ T (mkF m 11 #[.val (.ref a1), .val (.ref a2), .val (.int i)] [(.ref a1), (.int i)])
        refine own_alen X hx hZ eT V_a1_0 (hb hby d4_11) ?_
        show own_Go p e below _ T (mkF m 12 #[.val (.ref a1), .val (.ref a2), .val (.int i)] [(.int ((xs.map Value.int)).length.toInt32), (.int i)])
        refine own_icmp X hx 32 (hb hby d4_12) (by decide) (by decide) (fun _ => ?_) (fun hc => absurd (show ¬ i < ((xs.map Value.int)).length.toInt32 from own_nlt hi el1 (by simp at hxl; omega)) (by first | exact hc | exact not_not_intro hc))
        show own_Go p e below _ T (mkF m 32 #[.val (.ref a1), .val (.ref a2), .val (.int i)] [])
        refine own_by (fun t_ k_ => XS.iconst X.here hx rfl (hb hby d4_32) k_) ?_
        show own_Go p e below _ T (mkF m 33 #[.val (.ref a1), .val (.ref a2), .val (.int i)] [(.int (1 : Int32))])
        refine own_retZ X hx hlk Bd.returns (by decide) (hb hby d4_33) eT (by decide) (by decide) ?_
        exact ⟨by rw [own_eqv, if_pos (hiff.mpr rfl)], N0, rfl⟩
    | cons d D ih =>
      intro E T i k X eT hi hD hE hlen hxl hiff
      cases E with
      | nil => simp at hlen
      | cons f E =>
        simp only [List.length_cons] at hxl hlen
        show own_Go p e below _ T (mkF m 9 #[.val (.ref a1), .val (.ref a2), .val (.int i)] [])
        refine own_by (fun t_ k_ => XS.iloadN X.here hx rfl (hb hby d4_9) rfl k_) ?_
        show own_Go p e below _ T (mkF m 10 #[.val (.ref a1), .val (.ref a2), .val (.int i)] [(.int i)])
        refine own_by (fun t_ k_ => XS.aloadN X.here hx rfl (hb hby d4_10) rfl rfl k_) ?_
        show own_Go p e below _ T (mkF m 11 #[.val (.ref a1), .val (.ref a2), .val (.int i)] [(.ref a1), (.int i)])
        refine own_alen X hx hZ eT V_a1_0 (hb hby d4_11) ?_
        show own_Go p e below _ T (mkF m 12 #[.val (.ref a1), .val (.ref a2), .val (.int i)] [(.int ((xs.map Value.int)).length.toInt32), (.int i)])
        refine own_icmp X hx 32 (hb hby d4_12) (by decide) (by decide) (fun hc => absurd (show i < ((xs.map Value.int)).length.toInt32 from own_ilt hi el1 (by omega)) (by first | exact hc | exact not_not_intro hc)) (fun _ => ?_)
        show own_Go p e below _ T (mkF m 15 #[.val (.ref a1), .val (.ref a2), .val (.int i)] [])
        refine own_by (fun t_ k_ => XS.aloadN X.here hx rfl (hb hby d4_15) rfl rfl k_) ?_
        show own_Go p e below _ T (mkF m 16 #[.val (.ref a1), .val (.ref a2), .val (.int i)] [(.ref a1)])
        refine own_by (fun t_ k_ => XS.iloadN X.here hx rfl (hb hby d4_16) rfl k_) ?_
        show own_Go p e below _ T (mkF m 17 #[.val (.ref a1), .val (.ref a2), .val (.int i)] [(.int i), (.ref a1)])
        refine own_baload X hx hZ eT V_a1_0 (v := (.int d)) k hi hD.1 (hb hby d4_17) ?_
        show own_Go p e below _ T (mkF m 18 #[.val (.ref a1), .val (.ref a2), .val (.int i)] [(.int d)])
        refine own_by (fun t_ k_ => XS.aloadN X.here hx rfl (hb hby d4_18) rfl rfl k_) ?_
        show own_Go p e below _ T (mkF m 19 #[.val (.ref a1), .val (.ref a2), .val (.int i)] [(.ref a2), (.int d)])
        refine own_by (fun t_ k_ => XS.iloadN X.here hx rfl (hb hby d4_19) rfl k_) ?_
        show own_Go p e below _ T (mkF m 20 #[.val (.ref a1), .val (.ref a2), .val (.int i)] [(.int i), (.ref a2), (.int d)])
        refine own_baload X hx hZ eT V_a2_0 (v := (.int f)) k hi hE.1 (hb hby d4_20) ?_
        show own_Go p e below _ T (mkF m 21 #[.val (.ref a1), .val (.ref a2), .val (.int i)] [(.int f), (.int d)])
        refine own_icmp X hx 26 (hb hby d4_21) (by decide) (by decide) (fun (hc21 : d = f) => ?_) (fun (hc21 : ¬ d = f) => ?_)
        · show own_Go p e below _ T (mkF m 26 #[.val (.ref a1), .val (.ref a2), .val (.int i)] [])
          refine own_by (fun t_ k_ => XS.iinc X.here hx rfl (hb hby d4_26) rfl (l' := #[.val (.ref a1), .val (.ref a2), .val (.int (i + (1 : Int32)))]) rfl k_) ?_
          show own_Go p e below _ T (mkF m 29 #[.val (.ref a1), .val (.ref a2), .val (.int (i + (1 : Int32)))] [])
          refine own_by (fun t_ k_ => XS.goto X.here hx rfl (pc0 := 29) (pc' := 9) rfl (hb hby d4_29) (by decide) (by decide) k_) ?_
          exact ih E _ _ (k + 1) X eT (own_inc hi (by omega)) hD.2 hE.2 (by omega) (by omega) (hiff.trans (by simp [hc21]))
        · show own_Go p e below _ T (mkF m 24 #[.val (.ref a1), .val (.ref a2), .val (.int i)] [])
          refine own_by (fun t_ k_ => XS.iconst X.here hx rfl (hb hby d4_24) k_) ?_
          show own_Go p e below _ T (mkF m 25 #[.val (.ref a1), .val (.ref a2), .val (.int i)] [(.int (0 : Int32))])
          refine own_retZ X hx hlk Bd.returns (by decide) (hb hby d4_25) eT (by decide) (by decide) ?_
          exact ⟨by rw [own_eqv, if_neg (fun q => hc21 (List.cons.inj (hiff.mp q)).1)], N0, rfl⟩
  show own_Go p e below _ s₁ (mkF m 0 #[.val (.ref a1), .val (.ref a2), .unset] [])
  refine own_by (fun t_ k_ => XS.aloadN X0.here hx rfl (hb hby d4_0) rfl rfl k_) ?_
  show own_Go p e below _ s₁ (mkF m 1 #[.val (.ref a1), .val (.ref a2), .unset] [(.ref a1)])
  refine own_alen X0 hx hZ e0 V_a1_0 (hb hby d4_1) ?_
  show own_Go p e below _ s₁ (mkF m 2 #[.val (.ref a1), .val (.ref a2), .unset] [(.int ((xs.map Value.int)).length.toInt32)])
  refine own_by (fun t_ k_ => XS.aloadN X0.here hx rfl (hb hby d4_2) rfl rfl k_) ?_
  show own_Go p e below _ s₁ (mkF m 3 #[.val (.ref a1), .val (.ref a2), .unset] [(.ref a2), (.int ((xs.map Value.int)).length.toInt32)])
  refine own_alen X0 hx hZ e0 V_a2_0 (hb hby d4_3) ?_
  show own_Go p e below _ s₁ (mkF m 4 #[.val (.ref a1), .val (.ref a2), .unset] [(.int ((ys.map Value.int)).length.toInt32), (.int ((xs.map Value.int)).length.toInt32)])
  refine own_icmp X0 hx 34 (hb hby d4_4) (by decide) (by decide) (fun (hc4 : ¬ ((xs.map Value.int)).length.toInt32 = ((ys.map Value.int)).length.toInt32) => ?_) (fun (hc4 : ((xs.map Value.int)).length.toInt32 = ((ys.map Value.int)).length.toInt32) => ?_)
  · show own_Go p e below _ s₁ (mkF m 34 #[.val (.ref a1), .val (.ref a2), .unset] [])
    refine own_by (fun t_ k_ => XS.iconst X0.here hx rfl (hb hby d4_34) k_) ?_
    show own_Go p e below _ s₁ (mkF m 35 #[.val (.ref a1), .val (.ref a2), .unset] [(.int (0 : Int32))])
    refine own_retZ X0 hx hlk Bd.returns (by decide) (hb hby d4_35) e0 (by decide) (by decide) ?_
    exact ⟨by rw [own_eqv, if_neg (fun q => hc4 (by rw [q]))], N0, rfl⟩
  · show own_Go p e below _ s₁ (mkF m 7 #[.val (.ref a1), .val (.ref a2), .unset] [])
    refine own_by (fun t_ k_ => XS.iconst X0.here hx rfl (hb hby d4_7) k_) ?_
    show own_Go p e below _ s₁ (mkF m 8 #[.val (.ref a1), .val (.ref a2), .unset] [(.int (0 : Int32))])
    refine own_by (fun t_ k_ => XS.istoreN X0.here hx rfl (hb hby d4_8) rfl (l' := #[.val (.ref a1), .val (.ref a2), .val (.int (0 : Int32))]) rfl k_) ?_
    have hee : xs.length = ys.length := by have := congrArg Int32.toInt hc4; rw [el1, el2] at this; omega
    exact lp xs ys _ 0 0 X0 e0 (by decide) (own_At_all xs []) (own_At_all ys []) hee (by simp) Iff.rfl
theorem ef_3 (m : MethodId) (a1 : Addr) (a2 : Addr) : entryFrame m #[(.ref a1), (.ref a2)] 3 = mkF m 0 #[.val (.ref a1), .val (.ref a2), .unset] [] := by first | (simp [entryFrame, mkF, argsToLocals, Value.category]; done) | rfl
set_option maxRecDepth 65536 in
set_option maxHeartbeats 40000000 in
theorem rm3 (l : Launch) (Z : State) (a0 : Array Value) (hw : ∀ d ∈ tables_1, d.before a0 Z = true) (ws : List Jvm.Cond) (a1 : Addr) (a2 : Addr) (b1 : Addr) (b2 : Addr) (xs : List Int32) (ys : List Int32) (cs : Int32) (h0 : Heap) (n0 : Nat) (Z0 : n0 ≤ h0.size) (E_a1 : Exa Z h0 a1 "java/lang/String") (C_a1 : Fld Z h0 a1 "java/lang/String" "coder" "B" (.int (0 : Int32))) (F_a1 : Fld Z h0 a1 "java/lang/String" "value" "[B" (.ref b1)) (V_b1_0 : own_Arr Z h0 b1 .byte (xs.map Value.int)) (E_a2 : Exa Z h0 a2 "java/lang/String") (C_a2 : Fld Z h0 a2 "java/lang/String" "coder" "B" (.int (0 : Int32))) (F_a2 : Fld Z h0 a2 "java/lang/String" "value" "[B" (.ref b2)) (V_b2_0 : own_Arr Z h0 b2 .byte (ys.map Value.int)) (S_cs : Sta Z h0 "java/lang/String" "COMPACT_STRINGS" "Z" (.int cs)) (hcs : ¬ cs = 0) :
    MetFree l (⟨"java/lang/String", "equals", "(Ljava/lang/Object;)Z"⟩ : MethodName) (head1 (Jvm.Cond.code (⟨"java/lang/String", "equals", "(Ljava/lang/Object;)Z"⟩ : MethodName) jdk_42_method_66_code 3 (some .boolean) :: ws) ({ frames := 1, cells := 0, slots := 0, locals := 14 } : Room)) (fun a U => a = #[(.ref a1), (.ref a2)] ∧ Z.Warmed39 U.vm ∧ U.heap = h0) (fun _ _ _ _ _ => True) (fun _ U o U' => ∃ v L, o = .returned v ∧ QLe xs ys h0 n0 v U'.heap L ∧ FrameEnd U o U' L ({ frames := 1, cells := 0, slots := 0, locals := 14 } : Room).cells ({ frames := 1, cells := 0, slots := 0, locals := 14 } : Room).slots) := by
  refine MetFree.of_bodySF (plainFor_of_name pn_3) hisR ?_
  intro p e s m args below meth c s₁ Bd hml0 hP hK
  obtain ⟨rfl, hZ, hh⟩ := hP
  have hx := Bd.exec
  have hby := Bd.bytes
  have hml : c.maxLocals = 3 := hml0
  have hown : s.vm.findClass "java/lang/String" = some m.cls := findClass_of_methodNamed Bd.named
  have hnm := (name_of_methodNamed Bd.named Bd.method).1
  have hlk : meth.locks = false := BodyLoose.notSynchronized Bd
  have X0 : Stand p l e ({ frames := 1, cells := 0, slots := 0, locals := 14 } : Room) s m #[(.ref a1), (.ref a2)] below meth c s₁ [] 0 0 := Stand.of_body Bd
  have e0 : s₁.heap = h0 := by rw [← hh, Bd.state]; rfl
  have N0 := Fr.nil n0
  refine own_start (Q := QLe xs ys h0 n0) (ef_3 m a1 a2) ?_
  show own_Go p e below _ s₁ (mkF m 0 #[.val (.ref a1), .val (.ref a2), .unset] [])
  refine own_by (fun t_ k_ => XS.aloadN X0.here hx rfl (hb hby d3_0) rfl rfl k_) ?_
  show own_Go p e below _ s₁ (mkF m 1 #[.val (.ref a1), .val (.ref a2), .unset] [(.ref a1)])
  refine own_by (fun t_ k_ => XS.aloadN X0.here hx rfl (hb hby d3_1) rfl rfl k_) ?_
  show own_Go p e below _ s₁ (mkF m 2 #[.val (.ref a1), .val (.ref a2), .unset] [(.ref a2), (.ref a1)])
  refine own_acmpNe X0 hx 7 (hb hby d3_2) (by decide) (by decide) (fun (hc2 : ¬ a1 = a2) => ?_) (fun (hc2 : a1 = a2) => ?_)
  · show own_Go p e below _ s₁ (mkF m 7 #[.val (.ref a1), .val (.ref a2), .unset] [])
    refine own_by (fun t_ k_ => XS.aloadN X0.here hx rfl (hb hby d3_7) rfl rfl k_) ?_
    show own_Go p e below _ s₁ (mkF m 8 #[.val (.ref a1), .val (.ref a2), .unset] [(.ref a2)])
    refine own_inst X0 hx hZ hown (hw _ (List.mem_of_getElem? (i := 30) rfl)) e0 (Ins.self E_a2) (hb hby d3_8) ?_
    intro T1 X1 e1
    show own_Go p e below _ T1 (mkF m 11 #[.val (.ref a1), .val (.ref a2), .unset] [(.int (1 : Int32))])
    refine own_if X1 hx 54 (hb hby d3_11) (by decide) (by decide) (fun hc => absurd (show ¬ (1 : Int32) = (0 : Int32) from by decide) (by first | exact hc | exact not_not_intro hc)) (fun _ => ?_)
    show own_Go p e below _ T1 (mkF m 14 #[.val (.ref a1), .val (.ref a2), .unset] [])
    refine own_by (fun t_ k_ => XS.aloadN X1.here hx rfl (hb hby d3_14) rfl rfl k_) ?_
    show own_Go p e below _ T1 (mkF m 15 #[.val (.ref a1), .val (.ref a2), .unset] [(.ref a2)])
    refine own_cast X1 hx hZ hown (hw _ (List.mem_of_getElem? (i := 30) rfl)) e1 (Ins.self E_a2) (hb hby d3_15) ?_
    intro T2 X2 e2
    show own_Go p e below _ T2 (mkF m 18 #[.val (.ref a1), .val (.ref a2), .unset] [(.ref a2)])
    refine own_by (fun t_ k_ => XS.astoreN X2.here hx rfl (hb hby d3_18) rfl rfl (l' := #[.val (.ref a1), .val (.ref a2), .val (.ref a2)]) rfl k_) ?_
    show own_Go p e below _ T2 (mkF m 19 #[.val (.ref a1), .val (.ref a2), .val (.ref a2)] [])
    refine own_getS X2 hx hZ hown (hw _ (List.mem_of_getElem? (i := 32) rfl)) Via.refl e2 S_cs (hb hby d3_19) ?_
    intro T3 X3 e3
    show own_Go p e below _ T3 (mkF m 22 #[.val (.ref a1), .val (.ref a2), .val (.ref a2)] [(.int cs)])
    refine own_if X3 hx 36 (hb hby d3_22) (by decide) (by decide) (fun hc => absurd (show ¬ cs = (0 : Int32) from hcs) (by first | exact hc | exact not_not_intro hc)) (fun _ => ?_)
    show own_Go p e below _ T3 (mkF m 25 #[.val (.ref a1), .val (.ref a2), .val (.ref a2)] [])
    refine own_by (fun t_ k_ => XS.aloadN X3.here hx rfl (hb hby d3_25) rfl rfl k_) ?_
    show own_Go p e below _ T3 (mkF m 26 #[.val (.ref a1), .val (.ref a2), .val (.ref a2)] [(.ref a1)])
    refine own_getF X3 hx hZ hown (hw _ (List.mem_of_getElem? (i := 33) rfl)) Via.refl e3 C_a1 (hb hby d3_26) ?_
    intro T4 X4 e4
    show own_Go p e below _ T4 (mkF m 29 #[.val (.ref a1), .val (.ref a2), .val (.ref a2)] [(.int (0 : Int32))])
    refine own_by (fun t_ k_ => XS.aloadN X4.here hx rfl (hb hby d3_29) rfl rfl k_) ?_
    show own_Go p e below _ T4 (mkF m 30 #[.val (.ref a1), .val (.ref a2), .val (.ref a2)] [(.ref a2), (.int (0 : Int32))])
    refine own_getF X4 hx hZ hown (hw _ (List.mem_of_getElem? (i := 33) rfl)) Via.refl e4 C_a2 (hb hby d3_30) ?_
    intro T5 X5 e5
    show own_Go p e below _ T5 (mkF m 33 #[.val (.ref a1), .val (.ref a2), .val (.ref a2)] [(.int (0 : Int32)), (.int (0 : Int32))])
    refine own_icmp X5 hx 54 (hb hby d3_33) (by decide) (by decide) (fun hc => absurd (show (0 : Int32) = (0 : Int32) from by decide) (by first | exact hc | exact not_not_intro hc)) (fun _ => ?_)
    show own_Go p e below _ T5 (mkF m 36 #[.val (.ref a1), .val (.ref a2), .val (.ref a2)] [])
    refine own_by (fun t_ k_ => XS.aloadN X5.here hx rfl (hb hby d3_36) rfl rfl k_) ?_
    show own_Go p e below _ T5 (mkF m 37 #[.val (.ref a1), .val (.ref a2), .val (.ref a2)] [(.ref a1)])
    refine own_getF X5 hx hZ hown (hw _ (List.mem_of_getElem? (i := 34) rfl)) Via.refl e5 F_a1 (hb hby d3_37) ?_
    intro T6 X6 e6
    show own_Go p e below _ T6 (mkF m 40 #[.val (.ref a1), .val (.ref a2), .val (.ref a2)] [(.ref b1)])
    refine own_by (fun t_ k_ => XS.aloadN X6.here hx rfl (hb hby d3_40) rfl rfl k_) ?_
    show own_Go p e below _ T6 (mkF m 41 #[.val (.ref a1), .val (.ref a2), .val (.ref a2)] [(.ref a2), (.ref b1)])
    refine own_getF X6 hx hZ hown (hw _ (List.mem_of_getElem? (i := 34) rfl)) Via.refl e6 F_a2 (hb hby d3_41) ?_
    intro T7 X7 e7
    show own_Go p e below _ T7 (mkF m 44 #[.val (.ref a1), .val (.ref a2), .val (.ref a2)] [(.ref b2), (.ref b1)])
    refine own_callS (W := 0) X7 hx hZ (y := (⟨"java/lang/StringLatin1", "equals", "([B[B)Z"⟩ : MethodName)) hown (hw _ (List.mem_of_getElem? (i := 35) rfl)) (hw _ (List.mem_of_getElem? (i := 36) rfl)) (hw _ (List.mem_of_getElem? (i := 37) rfl)) (hw _ (List.mem_of_getElem? (i := 38) rfl)) (by decide) (by rw [hml]; rfl) (argsL := [(.ref b1), (.ref b2)]) pd_3 rfl (rm4 l Z a0 hw [] b1 b2 xs ys h0 n0 Z0 V_b1_0 V_b2_0) (by decide) (by decide) (Nat.le_of_eq rfl) (by decide) (by decide) (rest := []) e7 rfl (hb hby d3_44) ?_
    intro v8 T8 L8 X8 hQ8
    obtain ⟨rfl, N8q, e8⟩ := hQ8
    have N8 := Fr.app N0 N8q
    show own_Go p e below _ T8 (mkF m 47 #[.val (.ref a1), .val (.ref a2), .val (.ref a2)] [(.int (own_eqv xs ys))])
    refine own_if X8 hx 54 (hb hby d3_47) (by decide) (by decide) (fun (hc47 : (own_eqv xs ys) = (0 : Int32)) => ?_) (fun (hc47 : ¬ (own_eqv xs ys) = (0 : Int32)) => ?_)
    · show own_Go p e below _ T8 (mkF m 54 #[.val (.ref a1), .val (.ref a2), .val (.ref a2)] [])
      refine own_by (fun t_ k_ => XS.iconst X8.here hx rfl (hb hby d3_54) k_) ?_
      show own_Go p e below _ T8 (mkF m 55 #[.val (.ref a1), .val (.ref a2), .val (.ref a2)] [(.int (0 : Int32))])
      refine own_retZ X8 hx hlk Bd.returns (by decide) (hb hby d3_55) e8 (by decide) (by decide) ?_
      exact ⟨by unfold own_eqv at hc47 ⊢; split at hc47 <;> simp_all, N8, rfl⟩
    · show own_Go p e below _ T8 (mkF m 50 #[.val (.ref a1), .val (.ref a2), .val (.ref a2)] [])
      refine own_by (fun t_ k_ => XS.iconst X8.here hx rfl (hb hby d3_50) k_) ?_
      show own_Go p e below _ T8 (mkF m 51 #[.val (.ref a1), .val (.ref a2), .val (.ref a2)] [(.int (1 : Int32))])
      refine own_by (fun t_ k_ => XS.goto X8.here hx rfl (pc0 := 51) (pc' := 55) rfl (hb hby d3_51) (by decide) (by decide) k_) ?_
      show own_Go p e below _ T8 (mkF m 55 #[.val (.ref a1), .val (.ref a2), .val (.ref a2)] [(.int (1 : Int32))])
      refine own_retZ X8 hx hlk Bd.returns (by decide) (hb hby d3_55) e8 (by decide) (by decide) ?_
      exact ⟨by unfold own_eqv at hc47 ⊢; split at hc47 <;> simp_all, N8, rfl⟩
  · show own_Go p e below _ s₁ (mkF m 5 #[.val (.ref a1), .val (.ref a2), .unset] [])
    refine own_by (fun t_ k_ => XS.iconst X0.here hx rfl (hb hby d3_5) k_) ?_
    show own_Go p e below _ s₁ (mkF m 6 #[.val (.ref a1), .val (.ref a2), .unset] [(.int (1 : Int32))])
    refine own_retZ X0 hx hlk Bd.returns (by decide) (hb hby d3_6) e0 (by decide) (by decide) ?_
    subst hc2
    have q := own_Fld_uniq F_a1 F_a2
    cases q
    have q := own_mapint (own_Arr.uniq V_b1_0 V_b2_0)
    exact ⟨by rw [own_eqv, if_pos q], N0, rfl⟩
theorem ef_0 (m : MethodId) (p1 : Int32) : entryFrame m #[(.int p1)] maxLocals = mkF m 0 #[.val (.int p1), .unset, .unset, .unset, .unset, .unset, .unset] [] := by first | (simp [entryFrame, mkF, argsToLocals, Value.category, maxLocals]; done) | rfl
set_option maxRecDepth 65536 in
set_option maxHeartbeats 40000000 in
theorem rm0 (l : Launch) (Z : State) (a0 : Array Value) (hw : ∀ d ∈ tables_1, d.before a0 Z = true) (ws : List Jvm.Cond) (p1 : Int32) (a_EQUALS : Addr) (s_EQUALS : Addr) (b_EQUALS : Addr) (a_NOT_EQUALS : Addr) (s_NOT_EQUALS : Addr) (b_NOT_EQUALS : Addr) (a_LESS : Addr) (s_LESS : Addr) (b_LESS : Addr) (a_LESS_EQUALS : Addr) (s_LESS_EQUALS : Addr) (b_LESS_EQUALS : Addr) (a_GREATER : Addr) (s_GREATER : Addr) (b_GREATER : Addr) (a_GREATER_EQUALS : Addr) (s_GREATER_EQUALS : Addr) (b_GREATER_EQUALS : Addr) (cs : Int32) (h0 : Heap) (n0 : Nat) (Z0 : n0 ≤ h0.size) (E_EQUALS : Exa Z h0 a_EQUALS "com/example/kediri/kediri/jpql/Expression$Operator") (S_EQUALS : Sta Z h0 "com/example/kediri/kediri/jpql/Expression$Operator" "EQUALS" "Lcom/example/kediri/kediri/jpql/Expression$Operator;" (.ref a_EQUALS)) (O_EQUALS : Fld Z h0 a_EQUALS "java/lang/Enum" "ordinal" "I" (.int (0 : Int32))) (Y_EQUALS : Fld Z h0 a_EQUALS "com/example/kediri/kediri/jpql/Expression$Operator" "symbol" "Ljava/lang/String;" (.ref s_EQUALS)) (Es_EQUALS : Exa Z h0 s_EQUALS "java/lang/String") (C_EQUALS : Fld Z h0 s_EQUALS "java/lang/String" "coder" "B" (.int (0 : Int32))) (W_EQUALS : Fld Z h0 s_EQUALS "java/lang/String" "value" "[B" (.ref b_EQUALS)) (V_EQUALS : own_Arr Z h0 b_EQUALS .byte ([(61 : Int32)].map Value.int)) (E_NOT_EQUALS : Exa Z h0 a_NOT_EQUALS "com/example/kediri/kediri/jpql/Expression$Operator") (S_NOT_EQUALS : Sta Z h0 "com/example/kediri/kediri/jpql/Expression$Operator" "NOT_EQUALS" "Lcom/example/kediri/kediri/jpql/Expression$Operator;" (.ref a_NOT_EQUALS)) (O_NOT_EQUALS : Fld Z h0 a_NOT_EQUALS "java/lang/Enum" "ordinal" "I" (.int (1 : Int32))) (Y_NOT_EQUALS : Fld Z h0 a_NOT_EQUALS "com/example/kediri/kediri/jpql/Expression$Operator" "symbol" "Ljava/lang/String;" (.ref s_NOT_EQUALS)) (Es_NOT_EQUALS : Exa Z h0 s_NOT_EQUALS "java/lang/String") (C_NOT_EQUALS : Fld Z h0 s_NOT_EQUALS "java/lang/String" "coder" "B" (.int (0 : Int32))) (W_NOT_EQUALS : Fld Z h0 s_NOT_EQUALS "java/lang/String" "value" "[B" (.ref b_NOT_EQUALS)) (V_NOT_EQUALS : own_Arr Z h0 b_NOT_EQUALS .byte ([(60 : Int32), (62 : Int32)].map Value.int)) (E_LESS : Exa Z h0 a_LESS "com/example/kediri/kediri/jpql/Expression$Operator") (S_LESS : Sta Z h0 "com/example/kediri/kediri/jpql/Expression$Operator" "LESS" "Lcom/example/kediri/kediri/jpql/Expression$Operator;" (.ref a_LESS)) (O_LESS : Fld Z h0 a_LESS "java/lang/Enum" "ordinal" "I" (.int (2 : Int32))) (Y_LESS : Fld Z h0 a_LESS "com/example/kediri/kediri/jpql/Expression$Operator" "symbol" "Ljava/lang/String;" (.ref s_LESS)) (Es_LESS : Exa Z h0 s_LESS "java/lang/String") (C_LESS : Fld Z h0 s_LESS "java/lang/String" "coder" "B" (.int (0 : Int32))) (W_LESS : Fld Z h0 s_LESS "java/lang/String" "value" "[B" (.ref b_LESS)) (V_LESS : own_Arr Z h0 b_LESS .byte ([(60 : Int32)].map Value.int)) (E_LESS_EQUALS : Exa Z h0 a_LESS_EQUALS "com/example/kediri/kediri/jpql/Expression$Operator") (S_LESS_EQUALS : Sta Z h0 "com/example/kediri/kediri/jpql/Expression$Operator" "LESS_EQUALS" "Lcom/example/kediri/kediri/jpql/Expression$Operator;" (.ref a_LESS_EQUALS)) (O_LESS_EQUALS : Fld Z h0 a_LESS_EQUALS "java/lang/Enum" "ordinal" "I" (.int (3 : Int32))) (Y_LESS_EQUALS : Fld Z h0 a_LESS_EQUALS "com/example/kediri/kediri/jpql/Expression$Operator" "symbol" "Ljava/lang/String;" (.ref s_LESS_EQUALS)) (Es_LESS_EQUALS : Exa Z h0 s_LESS_EQUALS "java/lang/String") (C_LESS_EQUALS : Fld Z h0 s_LESS_EQUALS "java/lang/String" "coder" "B" (.int (0 : Int32))) (W_LESS_EQUALS : Fld Z h0 s_LESS_EQUALS "java/lang/String" "value" "[B" (.ref b_LESS_EQUALS)) (V_LESS_EQUALS : own_Arr Z h0 b_LESS_EQUALS .byte ([(60 : Int32), (61 : Int32)].map Value.int)) (E_GREATER : Exa Z h0 a_GREATER "com/example/kediri/kediri/jpql/Expression$Operator") (S_GREATER : Sta Z h0 "com/example/kediri/kediri/jpql/Expression$Operator" "GREATER" "Lcom/example/kediri/kediri/jpql/Expression$Operator;" (.ref a_GREATER)) (O_GREATER : Fld Z h0 a_GREATER "java/lang/Enum" "ordinal" "I" (.int (4 : Int32))) (Y_GREATER : Fld Z h0 a_GREATER "com/example/kediri/kediri/jpql/Expression$Operator" "symbol" "Ljava/lang/String;" (.ref s_GREATER)) (Es_GREATER : Exa Z h0 s_GREATER "java/lang/String") (C_GREATER : Fld Z h0 s_GREATER "java/lang/String" "coder" "B" (.int (0 : Int32))) (W_GREATER : Fld Z h0 s_GREATER "java/lang/String" "value" "[B" (.ref b_GREATER)) (V_GREATER : own_Arr Z h0 b_GREATER .byte ([(62 : Int32)].map Value.int)) (E_GREATER_EQUALS : Exa Z h0 a_GREATER_EQUALS "com/example/kediri/kediri/jpql/Expression$Operator") (S_GREATER_EQUALS : Sta Z h0 "com/example/kediri/kediri/jpql/Expression$Operator" "GREATER_EQUALS" "Lcom/example/kediri/kediri/jpql/Expression$Operator;" (.ref a_GREATER_EQUALS)) (O_GREATER_EQUALS : Fld Z h0 a_GREATER_EQUALS "java/lang/Enum" "ordinal" "I" (.int (5 : Int32))) (Y_GREATER_EQUALS : Fld Z h0 a_GREATER_EQUALS "com/example/kediri/kediri/jpql/Expression$Operator" "symbol" "Ljava/lang/String;" (.ref s_GREATER_EQUALS)) (Es_GREATER_EQUALS : Exa Z h0 s_GREATER_EQUALS "java/lang/String") (C_GREATER_EQUALS : Fld Z h0 s_GREATER_EQUALS "java/lang/String" "coder" "B" (.int (0 : Int32))) (W_GREATER_EQUALS : Fld Z h0 s_GREATER_EQUALS "java/lang/String" "value" "[B" (.ref b_GREATER_EQUALS)) (V_GREATER_EQUALS : own_Arr Z h0 b_GREATER_EQUALS .byte ([(62 : Int32), (61 : Int32)].map Value.int)) (S_cs : Sta Z h0 "java/lang/String" "COMPACT_STRINGS" "Z" (.int cs)) (hcs : ¬ cs = 0) (hEL : EW Z a0 consts_1) :
    MetFree l x (head1 (Jvm.Cond.code x code maxLocals ret :: ws) room_1) (fun a U => a = #[(.int p1)] ∧ Z.Warmed39 U.vm ∧ U.heap = h0 ∧ CHv Z consts_1 U.vm U.heap) (fun _ _ _ _ _ => True) (fun _ U o U' => ∃ v L, o = .returned v ∧ Q0 n0 v U'.heap L ∧ ReturnedEndW U o U' L room_1.cells room_1.slots) := by
  refine MetFree.of_bodySF (plainFor_of_name pn_0) hisR ?_
  intro p e s m args below meth c s₁ Bd hml0 hP hK
  obtain ⟨rfl, hZ, hh, hCH⟩ := hP
  have hx := Bd.exec
  have hby := Bd.bytes
  have hml : c.maxLocals = 7 := hml0
  have hown : s.vm.findClass "com/example/kediri/kediri/jpql/OperatorIsEqualityPinLaw" = some m.cls := findClass_of_methodNamed Bd.named
  have hnm := (name_of_methodNamed Bd.named Bd.method).1
  have hlk : meth.locks = false := BodyLoose.notSynchronized Bd
  have X0 : Stand p l e room_1 (s.setVm s.vm) m #[(.int p1)] below meth c s₁ [] 0 0 := Stand.of_body Bd
  have e0 : s₁.heap = h0 := by rw [← hh, Bd.state]; rfl
  have N0 := Fr.nil n0
  have hS0 : s.Since s.vm 0 := (State.WarmedH.refl s).since 0
  have hk0 : 0 ≤ h0.size := Nat.zero_le _
  have hwS := own_strs hw
  refine own_startW (Q := Q0 n0) (ef_0 m p1) ?_
  rw [hh] at hCH
  show own_Go p e below _ s₁ (mkF m 0 #[.val (.int p1), .unset, .unset, .unset, .unset, .unset, .unset] [])
  refine own_by (fun t_ k_ => XS.iloadN X0.here hx rfl (hb hby at_0) rfl k_) ?_
  show own_Go p e below _ s₁ (mkF m 1 #[.val (.int p1), .unset, .unset, .unset, .unset, .unset, .unset] [(.int p1)])
  refine own_by (fun t_ k_ => X0.ldcInt hx hown (mvT hZ (hw _ (List.mem_of_getElem? (i := 0) rfl))) (g := (mkF m 1 #[.val (.int p1), .unset, .unset, .unset, .unset, .unset, .unset] [(.int p1)])) rfl (hb hby at_1) _ k_) ?_
  show own_Go p e below _ s₁ (mkF m 3 #[.val (.int p1), .unset, .unset, .unset, .unset, .unset, .unset] [(.int (2147483647 : Int32)), (.int p1)])
  refine own_by (fun t_ k_ => XS.iand X0.here hx rfl (hb hby at_3) rfl k_) ?_
  show own_Go p e below _ s₁ (mkF m 4 #[.val (.int p1), .unset, .unset, .unset, .unset, .unset, .unset] [(.int (p1 &&& (2147483647 : Int32)))])
  refine own_by (fun t_ k_ => XS.bipush X0.here hx rfl (hb hby at_4) k_) ?_
  show own_Go p e below _ s₁ (mkF m 6 #[.val (.int p1), .unset, .unset, .unset, .unset, .unset, .unset] [(.int (6 : Int32)), (.int (p1 &&& (2147483647 : Int32)))])
  refine own_by (fun t_ k_ => iremM X0 hx rfl (hb hby at_6) rfl (by decide) k_) ?_
  show own_Go p e below _ s₁ (mkF m 7 #[.val (.int p1), .unset, .unset, .unset, .unset, .unset, .unset] [(.int ((p1 &&& (2147483647 : Int32)) % (6 : Int32)))])
  refine own_by (fun t_ k_ => XS.istoreN X0.here hx rfl (hb hby at_7) rfl (l' := #[.val (.int p1), .val (.int ((p1 &&& (2147483647 : Int32)) % (6 : Int32))), .unset, .unset, .unset, .unset, .unset]) rfl k_) ?_
  show own_Go p e below _ s₁ (mkF m 8 #[.val (.int p1), .val (.int ((p1 &&& (2147483647 : Int32)) % (6 : Int32))), .unset, .unset, .unset, .unset, .unset] [])
  generalize h_kq : ((p1 &&& (2147483647 : Int32)) % (6 : Int32)) = kq
  rcases own_l6 (h_kq ▸ (own_k6 p1).1) (h_kq ▸ (own_k6 p1).2) with rfl | rfl | rfl | rfl | rfl | rfl
  · show own_Go p e below _ s₁ (mkF m 8 #[.val (.int p1), .val (.int (0 : Int32)), .unset, .unset, .unset, .unset, .unset] [])
    refine own_by (fun t_ k_ => XS.iloadN X0.here hx rfl (hb hby at_8) rfl k_) ?_
    show own_Go p e below _ s₁ (mkF m 9 #[.val (.int p1), .val (.int (0 : Int32)), .unset, .unset, .unset, .unset, .unset] [(.int (0 : Int32))])
    refine own_if X0 hx 21 (hb hby at_9) (by decide) (by decide) (fun hc => absurd (show (0 : Int32) = (0 : Int32) from by decide) (by first | exact hc | exact not_not_intro hc)) (fun _ => ?_)
    show own_Go p e below _ s₁ (mkF m 12 #[.val (.int p1), .val (.int (0 : Int32)), .unset, .unset, .unset, .unset, .unset] [])
    refine own_getS X0 hx hZ hown (hw _ (List.mem_of_getElem? (i := 1) rfl)) Via.refl e0 S_EQUALS (hb hby at_12) ?_
    intro T1 X1 e1
    show own_Go p e below _ T1 (mkF m 15 #[.val (.int p1), .val (.int (0 : Int32)), .unset, .unset, .unset, .unset, .unset] [(.ref a_EQUALS)])
    refine own_by (fun t_ k_ => XS.astoreN X1.here hx rfl (hb hby at_15) rfl rfl (l' := #[.val (.int p1), .val (.int (0 : Int32)), .val (.ref a_EQUALS), .unset, .unset, .unset, .unset]) rfl k_) ?_
    show own_Go p e below _ T1 (mkF m 16 #[.val (.int p1), .val (.int (0 : Int32)), .val (.ref a_EQUALS), .unset, .unset, .unset, .unset] [])
    refine own_by (fun t_ k_ => XS.iconst X1.here hx rfl (hb hby at_16) k_) ?_
    show own_Go p e below _ T1 (mkF m 17 #[.val (.int p1), .val (.int (0 : Int32)), .val (.ref a_EQUALS), .unset, .unset, .unset, .unset] [(.int (1 : Int32))])
    refine own_by (fun t_ k_ => XS.istoreN X1.here hx rfl (hb hby at_17) rfl (l' := #[.val (.int p1), .val (.int (0 : Int32)), .val (.ref a_EQUALS), .val (.int (1 : Int32)), .unset, .unset, .unset]) rfl k_) ?_
    show own_Go p e below _ T1 (mkF m 18 #[.val (.int p1), .val (.int (0 : Int32)), .val (.ref a_EQUALS), .val (.int (1 : Int32)), .unset, .unset, .unset] [])
    refine own_by (fun t_ k_ => XS.goto X1.here hx rfl (pc0 := 18) (pc' := 83) rfl (hb hby at_18) (by decide) (by decide) k_) ?_
    show own_Go p e below _ T1 (mkF m 83 #[.val (.int p1), .val (.int (0 : Int32)), .val (.ref a_EQUALS), .val (.int (1 : Int32)), .unset, .unset, .unset] [])
    refine own_by (fun t_ k_ => XS.aloadN X1.here hx rfl (hb hby at_83) rfl rfl k_) ?_
    show own_Go p e below _ T1 (mkF m 84 #[.val (.int p1), .val (.int (0 : Int32)), .val (.ref a_EQUALS), .val (.int (1 : Int32)), .unset, .unset, .unset] [(.ref a_EQUALS)])
    refine own_callV (W := 0) X1 hx hZ (y := (⟨"com/example/kediri/kediri/jpql/Expression$Operator", "isEquality", "()Z"⟩ : MethodName)) (z := (⟨"com/example/kediri/kediri/jpql/Expression$Operator", "isEquality", "()Z"⟩ : MethodName)) hown (hw _ (List.mem_of_getElem? (i := 4) rfl)) (hw _ (List.mem_of_getElem? (i := 5) rfl)) (notFace_of_selects (args := #[]) (mvT hZ (hw _ (List.mem_of_getElem? (i := 7) rfl)))) (hw _ (List.mem_of_getElem? (i := 7) rfl)) (hw _ (List.mem_of_getElem? (i := 6) rfl)) (hw _ (List.mem_of_getElem? (i := 2) rfl)) (hw _ (List.mem_of_getElem? (i := 8) rfl)) (by decide) (by rw [hml]; rfl) (argsL := []) pd_0 rfl (a := a_EQUALS) e1 E_EQUALS (rm1 l Z a0 hw [] a_EQUALS a_EQUALS a_NOT_EQUALS h0 n0 Z0 S_EQUALS S_NOT_EQUALS) (by decide) (by decide) (Nat.le_of_eq rfl) (by decide) (by decide) (rest := []) rfl (hb hby at_84) ?_
    intro v2 T2 L2 X2 hQ2
    obtain ⟨rfl, N2q, e2⟩ := hQ2
    have N2 := Fr.app N0 N2q
    show own_Go p e below _ T2 (mkF m 87 #[.val (.int p1), .val (.int (0 : Int32)), .val (.ref a_EQUALS), .val (.int (1 : Int32)), .unset, .unset, .unset] [(.int (own_ie a_EQUALS a_EQUALS a_NOT_EQUALS))])
    refine own_by (fun t_ k_ => XS.istore X2.here hx rfl (hb hby at_87) rfl (l' := #[.val (.int p1), .val (.int (0 : Int32)), .val (.ref a_EQUALS), .val (.int (1 : Int32)), .val (.int (own_ie a_EQUALS a_EQUALS a_NOT_EQUALS)), .unset, .unset]) rfl k_) ?_
    show own_Go p e below _ T2 (mkF m 89 #[.val (.int p1), .val (.int (0 : Int32)), .val (.ref a_EQUALS), .val (.int (1 : Int32)), .val (.int (own_ie a_EQUALS a_EQUALS a_NOT_EQUALS)), .unset, .unset] [])
    refine own_by (fun t_ k_ => XS.aloadN X2.here hx rfl (hb hby at_89) rfl rfl k_) ?_
    show own_Go p e below _ T2 (mkF m 90 #[.val (.int p1), .val (.int (0 : Int32)), .val (.ref a_EQUALS), .val (.int (1 : Int32)), .val (.int (own_ie a_EQUALS a_EQUALS a_NOT_EQUALS)), .unset, .unset] [(.ref a_EQUALS)])
    refine own_callV (W := 0) X2 hx hZ (y := (⟨"com/example/kediri/kediri/jpql/Expression$Operator", "symbol", "()Ljava/lang/String;"⟩ : MethodName)) (z := (⟨"com/example/kediri/kediri/jpql/Expression$Operator", "symbol", "()Ljava/lang/String;"⟩ : MethodName)) hown (hw _ (List.mem_of_getElem? (i := 10) rfl)) (hw _ (List.mem_of_getElem? (i := 11) rfl)) (notFace_of_selects (args := #[]) (mvT hZ (hw _ (List.mem_of_getElem? (i := 13) rfl)))) (hw _ (List.mem_of_getElem? (i := 13) rfl)) (hw _ (List.mem_of_getElem? (i := 12) rfl)) (hw _ (List.mem_of_getElem? (i := 2) rfl)) (hw _ (List.mem_of_getElem? (i := 14) rfl)) (by decide) (by rw [hml]; rfl) (argsL := []) pd_1 rfl (a := a_EQUALS) e2 E_EQUALS (rm2 l Z a0 hw [] a_EQUALS s_EQUALS h0 n0 Z0 Y_EQUALS) (by decide) (by decide) (Nat.le_of_eq rfl) (by decide) (by decide) (rest := []) rfl (hb hby at_90) ?_
    intro v3 T3 L3 X3 hQ3
    obtain ⟨rfl, N3q, e3⟩ := hQ3
    have N3 := Fr.app N2 N3q
    show own_Go p e below _ T3 (mkF m 93 #[.val (.int p1), .val (.int (0 : Int32)), .val (.ref a_EQUALS), .val (.int (1 : Int32)), .val (.int (own_ie a_EQUALS a_EQUALS a_NOT_EQUALS)), .unset, .unset] [(.ref s_EQUALS)])
    refine own_by (fun t_ k_ => XS.astore X3.here hx rfl (hb hby at_93) rfl rfl (l' := #[.val (.int p1), .val (.int (0 : Int32)), .val (.ref a_EQUALS), .val (.int (1 : Int32)), .val (.int (own_ie a_EQUALS a_EQUALS a_NOT_EQUALS)), .val (.ref s_EQUALS), .unset]) rfl k_) ?_
    show own_Go p e below _ T3 (mkF m 95 #[.val (.int p1), .val (.int (0 : Int32)), .val (.ref a_EQUALS), .val (.int (1 : Int32)), .val (.int (own_ie a_EQUALS a_EQUALS a_NOT_EQUALS)), .val (.ref s_EQUALS), .unset] [])
    refine own_by (fun t_ k_ => XS.aload X3.here hx rfl (hb hby at_95) rfl rfl k_) ?_
    show own_Go p e below _ T3 (mkF m 97 #[.val (.int p1), .val (.int (0 : Int32)), .val (.ref a_EQUALS), .val (.int (1 : Int32)), .val (.int (own_ie a_EQUALS a_EQUALS a_NOT_EQUALS)), .val (.ref s_EQUALS), .unset] [(.ref s_EQUALS)])
    refine own_ldcC X3 hx hZ hown (hw _ (List.mem_of_getElem? (i := 17) rfl)) hwS e3 hS0 hk0 hEL (by decide) hCH [(61 : Int32)] (1 : Int32) (by decide) (by decide) (by decide) (hb hby at_97) 64 (by decide) (by decide) (by decide) (by decide) ?_
    intro b4 T4 h4 k4 d4 X4 e4 E4 hS4 hk4 hZ hown Es4 C4 W4 V4 H4
    have sz4 : n0 ≤ h4.size := Nat.le_trans Z0 E4.1
    show own_Go p e below _ T4 (mkF m 99 #[.val (.int p1), .val (.int (0 : Int32)), .val (.ref a_EQUALS), .val (.int (1 : Int32)), .val (.int (own_ie a_EQUALS a_EQUALS a_NOT_EQUALS)), .val (.ref s_EQUALS), .unset] [(.ref b4), (.ref s_EQUALS)])
    have Es_EQUALS_5 : Exa Z h4 s_EQUALS "java/lang/String" := (Exa.ext E4 Es_EQUALS)
    have C_EQUALS_6 : Fld Z h4 s_EQUALS "java/lang/String" "coder" "B" (.int (0 : Int32)) := (Fld.ext E4 C_EQUALS)
    have W_EQUALS_7 : Fld Z h4 s_EQUALS "java/lang/String" "value" "[B" (.ref b_EQUALS) := (Fld.ext E4 W_EQUALS)
    have V_EQUALS_8 : own_Arr Z h4 b_EQUALS .byte ([(61 : Int32)].map Value.int) := (own_Arr.ext V_EQUALS E4)
    have S_cs_9 : Sta Z h4 "java/lang/String" "COMPACT_STRINGS" "Z" (.int cs) := (Sta.ext E4 S_cs)
    refine own_callV (W := 0) X4 hx hZ (y := (⟨"java/lang/String", "equals", "(Ljava/lang/Object;)Z"⟩ : MethodName)) (z := (⟨"java/lang/String", "equals", "(Ljava/lang/Object;)Z"⟩ : MethodName)) hown (hw _ (List.mem_of_getElem? (i := 25) rfl)) (hw _ (List.mem_of_getElem? (i := 26) rfl)) (notFace_of_selects (args := #[]) (mvT hZ (hw _ (List.mem_of_getElem? (i := 28) rfl)))) (hw _ (List.mem_of_getElem? (i := 28) rfl)) (hw _ (List.mem_of_getElem? (i := 27) rfl)) (hw _ (List.mem_of_getElem? (i := 18) rfl)) (hw _ (List.mem_of_getElem? (i := 29) rfl)) (by decide) (by rw [hml]; rfl) (argsL := [(.ref b4)]) pd_2 rfl (a := s_EQUALS) e4 Es_EQUALS_5 (rm3 l Z a0 hw [] s_EQUALS b4 b_EQUALS d4 [(61 : Int32)] [(61 : Int32)] cs h4 n0 sz4 Es_EQUALS_5 C_EQUALS_6 W_EQUALS_7 V_EQUALS_8 Es4 C4 W4 V4 S_cs_9 hcs) (by decide) (by decide) (Nat.le_of_eq rfl) (by decide) (by decide) (rest := []) rfl (hb hby at_99) ?_
    intro v10 T10 L10 X10 hQ10
    obtain ⟨hv10, N10q, e10⟩ := hQ10
    rw [show own_eqv [(61 : Int32)] [(61 : Int32)] = (1 : Int32) from by decide] at hv10
    subst hv10
    have N10 := Fr.app N3 N10q
    show own_Go p e below _ T10 (mkF m 102 #[.val (.int p1), .val (.int (0 : Int32)), .val (.ref a_EQUALS), .val (.int (1 : Int32)), .val (.int (own_ie a_EQUALS a_EQUALS a_NOT_EQUALS)), .val (.ref s_EQUALS), .unset] [(.int (1 : Int32))])
    refine own_if X10 hx 115 (hb hby at_102) (by decide) (by decide) (fun _ => ?_) (fun hc => absurd (show ¬ (1 : Int32) = (0 : Int32) from by decide) (by first | exact hc | exact not_not_intro hc))
    show own_Go p e below _ T10 (mkF m 115 #[.val (.int p1), .val (.int (0 : Int32)), .val (.ref a_EQUALS), .val (.int (1 : Int32)), .val (.int (own_ie a_EQUALS a_EQUALS a_NOT_EQUALS)), .val (.ref s_EQUALS), .unset] [])
    refine own_by (fun t_ k_ => XS.iconst X10.here hx rfl (hb hby at_115) k_) ?_
    show own_Go p e below _ T10 (mkF m 116 #[.val (.int p1), .val (.int (0 : Int32)), .val (.ref a_EQUALS), .val (.int (1 : Int32)), .val (.int (own_ie a_EQUALS a_EQUALS a_NOT_EQUALS)), .val (.ref s_EQUALS), .unset] [(.int (1 : Int32))])
    refine own_by (fun t_ k_ => XS.goto X10.here hx rfl (pc0 := 116) (pc' := 120) rfl (hb hby at_116) (by decide) (by decide) k_) ?_
    show own_Go p e below _ T10 (mkF m 120 #[.val (.int p1), .val (.int (0 : Int32)), .val (.ref a_EQUALS), .val (.int (1 : Int32)), .val (.int (own_ie a_EQUALS a_EQUALS a_NOT_EQUALS)), .val (.ref s_EQUALS), .unset] [(.int (1 : Int32))])
    refine own_by (fun t_ k_ => XS.istore X10.here hx rfl (hb hby at_120) rfl (l' := #[.val (.int p1), .val (.int (0 : Int32)), .val (.ref a_EQUALS), .val (.int (1 : Int32)), .val (.int (own_ie a_EQUALS a_EQUALS a_NOT_EQUALS)), .val (.ref s_EQUALS), .val (.int (1 : Int32))]) rfl k_) ?_
    show own_Go p e below _ T10 (mkF m 122 #[.val (.int p1), .val (.int (0 : Int32)), .val (.ref a_EQUALS), .val (.int (1 : Int32)), .val (.int (own_ie a_EQUALS a_EQUALS a_NOT_EQUALS)), .val (.ref s_EQUALS), .val (.int (1 : Int32))] [])
    refine own_by (fun t_ k_ => XS.iload X10.here hx rfl (hb hby at_122) rfl k_) ?_
    show own_Go p e below _ T10 (mkF m 124 #[.val (.int p1), .val (.int (0 : Int32)), .val (.ref a_EQUALS), .val (.int (1 : Int32)), .val (.int (own_ie a_EQUALS a_EQUALS a_NOT_EQUALS)), .val (.ref s_EQUALS), .val (.int (1 : Int32))] [(.int (own_ie a_EQUALS a_EQUALS a_NOT_EQUALS))])
    refine own_by (fun t_ k_ => XS.iloadN X10.here hx rfl (hb hby at_124) rfl k_) ?_
    show own_Go p e below _ T10 (mkF m 125 #[.val (.int p1), .val (.int (0 : Int32)), .val (.ref a_EQUALS), .val (.int (1 : Int32)), .val (.int (own_ie a_EQUALS a_EQUALS a_NOT_EQUALS)), .val (.ref s_EQUALS), .val (.int (1 : Int32))] [(.int (1 : Int32)), (.int (own_ie a_EQUALS a_EQUALS a_NOT_EQUALS))])
    refine own_icmp X10 hx 139 (hb hby at_125) (by decide) (by decide) (fun hc => absurd (show (own_ie a_EQUALS a_EQUALS a_NOT_EQUALS) = (1 : Int32) from by simp [own_ie]) (by first | exact hc | exact not_not_intro hc)) (fun _ => ?_)
    show own_Go p e below _ T10 (mkF m 128 #[.val (.int p1), .val (.int (0 : Int32)), .val (.ref a_EQUALS), .val (.int (1 : Int32)), .val (.int (own_ie a_EQUALS a_EQUALS a_NOT_EQUALS)), .val (.ref s_EQUALS), .val (.int (1 : Int32))] [])
    refine own_by (fun t_ k_ => XS.iload X10.here hx rfl (hb hby at_128) rfl k_) ?_
    show own_Go p e below _ T10 (mkF m 130 #[.val (.int p1), .val (.int (0 : Int32)), .val (.ref a_EQUALS), .val (.int (1 : Int32)), .val (.int (own_ie a_EQUALS a_EQUALS a_NOT_EQUALS)), .val (.ref s_EQUALS), .val (.int (1 : Int32))] [(.int (own_ie a_EQUALS a_EQUALS a_NOT_EQUALS))])
    refine own_by (fun t_ k_ => XS.iload X10.here hx rfl (hb hby at_130) rfl k_) ?_
    show own_Go p e below _ T10 (mkF m 132 #[.val (.int p1), .val (.int (0 : Int32)), .val (.ref a_EQUALS), .val (.int (1 : Int32)), .val (.int (own_ie a_EQUALS a_EQUALS a_NOT_EQUALS)), .val (.ref s_EQUALS), .val (.int (1 : Int32))] [(.int (1 : Int32)), (.int (own_ie a_EQUALS a_EQUALS a_NOT_EQUALS))])
    refine own_icmp X10 hx 139 (hb hby at_132) (by decide) (by decide) (fun hc => absurd (show (own_ie a_EQUALS a_EQUALS a_NOT_EQUALS) = (1 : Int32) from by simp [own_ie]) (by first | exact hc | exact not_not_intro hc)) (fun _ => ?_)
    show own_Go p e below _ T10 (mkF m 135 #[.val (.int p1), .val (.int (0 : Int32)), .val (.ref a_EQUALS), .val (.int (1 : Int32)), .val (.int (own_ie a_EQUALS a_EQUALS a_NOT_EQUALS)), .val (.ref s_EQUALS), .val (.int (1 : Int32))] [])
    refine own_by (fun t_ k_ => XS.iconst X10.here hx rfl (hb hby at_135) k_) ?_
    show own_Go p e below _ T10 (mkF m 136 #[.val (.int p1), .val (.int (0 : Int32)), .val (.ref a_EQUALS), .val (.int (1 : Int32)), .val (.int (own_ie a_EQUALS a_EQUALS a_NOT_EQUALS)), .val (.ref s_EQUALS), .val (.int (1 : Int32))] [(.int (1 : Int32))])
    refine own_by (fun t_ k_ => XS.goto X10.here hx rfl (pc0 := 136) (pc' := 140) rfl (hb hby at_136) (by decide) (by decide) k_) ?_
    show own_Go p e below _ T10 (mkF m 140 #[.val (.int p1), .val (.int (0 : Int32)), .val (.ref a_EQUALS), .val (.int (1 : Int32)), .val (.int (own_ie a_EQUALS a_EQUALS a_NOT_EQUALS)), .val (.ref s_EQUALS), .val (.int (1 : Int32))] [(.int (1 : Int32))])
    refine own_retZw X10 hx hS4 hk4 hlk Bd.returns (by decide) (hb hby at_140) e10 (by decide) (by decide) ?_
    exact ⟨rfl, N10⟩
  · show own_Go p e below _ s₁ (mkF m 8 #[.val (.int p1), .val (.int (1 : Int32)), .unset, .unset, .unset, .unset, .unset] [])
    refine own_by (fun t_ k_ => XS.iloadN X0.here hx rfl (hb hby at_8) rfl k_) ?_
    show own_Go p e below _ s₁ (mkF m 9 #[.val (.int p1), .val (.int (1 : Int32)), .unset, .unset, .unset, .unset, .unset] [(.int (1 : Int32))])
    refine own_if X0 hx 21 (hb hby at_9) (by decide) (by decide) (fun _ => ?_) (fun hc => absurd (show ¬ (1 : Int32) = (0 : Int32) from by decide) (by first | exact hc | exact not_not_intro hc))
    show own_Go p e below _ s₁ (mkF m 21 #[.val (.int p1), .val (.int (1 : Int32)), .unset, .unset, .unset, .unset, .unset] [])
    refine own_by (fun t_ k_ => XS.iloadN X0.here hx rfl (hb hby at_21) rfl k_) ?_
    show own_Go p e below _ s₁ (mkF m 22 #[.val (.int p1), .val (.int (1 : Int32)), .unset, .unset, .unset, .unset, .unset] [(.int (1 : Int32))])
    refine own_by (fun t_ k_ => XS.iconst X0.here hx rfl (hb hby at_22) k_) ?_
    show own_Go p e below _ s₁ (mkF m 23 #[.val (.int p1), .val (.int (1 : Int32)), .unset, .unset, .unset, .unset, .unset] [(.int (1 : Int32)), (.int (1 : Int32))])
    refine own_icmp X0 hx 35 (hb hby at_23) (by decide) (by decide) (fun hc => absurd (show (1 : Int32) = (1 : Int32) from by decide) (by first | exact hc | exact not_not_intro hc)) (fun _ => ?_)
    show own_Go p e below _ s₁ (mkF m 26 #[.val (.int p1), .val (.int (1 : Int32)), .unset, .unset, .unset, .unset, .unset] [])
    refine own_getS X0 hx hZ hown (hw _ (List.mem_of_getElem? (i := 46) rfl)) Via.refl e0 S_NOT_EQUALS (hb hby at_26) ?_
    intro T11 X11 e11
    show own_Go p e below _ T11 (mkF m 29 #[.val (.int p1), .val (.int (1 : Int32)), .unset, .unset, .unset, .unset, .unset] [(.ref a_NOT_EQUALS)])
    refine own_by (fun t_ k_ => XS.astoreN X11.here hx rfl (hb hby at_29) rfl rfl (l' := #[.val (.int p1), .val (.int (1 : Int32)), .val (.ref a_NOT_EQUALS), .unset, .unset, .unset, .unset]) rfl k_) ?_
    show own_Go p e below _ T11 (mkF m 30 #[.val (.int p1), .val (.int (1 : Int32)), .val (.ref a_NOT_EQUALS), .unset, .unset, .unset, .unset] [])
    refine own_by (fun t_ k_ => XS.iconst X11.here hx rfl (hb hby at_30) k_) ?_
    show own_Go p e below _ T11 (mkF m 31 #[.val (.int p1), .val (.int (1 : Int32)), .val (.ref a_NOT_EQUALS), .unset, .unset, .unset, .unset] [(.int (1 : Int32))])
    refine own_by (fun t_ k_ => XS.istoreN X11.here hx rfl (hb hby at_31) rfl (l' := #[.val (.int p1), .val (.int (1 : Int32)), .val (.ref a_NOT_EQUALS), .val (.int (1 : Int32)), .unset, .unset, .unset]) rfl k_) ?_
    show own_Go p e below _ T11 (mkF m 32 #[.val (.int p1), .val (.int (1 : Int32)), .val (.ref a_NOT_EQUALS), .val (.int (1 : Int32)), .unset, .unset, .unset] [])
    refine own_by (fun t_ k_ => XS.goto X11.here hx rfl (pc0 := 32) (pc' := 83) rfl (hb hby at_32) (by decide) (by decide) k_) ?_
    show own_Go p e below _ T11 (mkF m 83 #[.val (.int p1), .val (.int (1 : Int32)), .val (.ref a_NOT_EQUALS), .val (.int (1 : Int32)), .unset, .unset, .unset] [])
    refine own_by (fun t_ k_ => XS.aloadN X11.here hx rfl (hb hby at_83) rfl rfl k_) ?_
    show own_Go p e below _ T11 (mkF m 84 #[.val (.int p1), .val (.int (1 : Int32)), .val (.ref a_NOT_EQUALS), .val (.int (1 : Int32)), .unset, .unset, .unset] [(.ref a_NOT_EQUALS)])
    refine own_callV (W := 0) X11 hx hZ (y := (⟨"com/example/kediri/kediri/jpql/Expression$Operator", "isEquality", "()Z"⟩ : MethodName)) (z := (⟨"com/example/kediri/kediri/jpql/Expression$Operator", "isEquality", "()Z"⟩ : MethodName)) hown (hw _ (List.mem_of_getElem? (i := 4) rfl)) (hw _ (List.mem_of_getElem? (i := 5) rfl)) (notFace_of_selects (args := #[]) (mvT hZ (hw _ (List.mem_of_getElem? (i := 7) rfl)))) (hw _ (List.mem_of_getElem? (i := 7) rfl)) (hw _ (List.mem_of_getElem? (i := 6) rfl)) (hw _ (List.mem_of_getElem? (i := 2) rfl)) (hw _ (List.mem_of_getElem? (i := 8) rfl)) (by decide) (by rw [hml]; rfl) (argsL := []) pd_0 rfl (a := a_NOT_EQUALS) e11 E_NOT_EQUALS (rm1 l Z a0 hw [] a_NOT_EQUALS a_EQUALS a_NOT_EQUALS h0 n0 Z0 S_EQUALS S_NOT_EQUALS) (by decide) (by decide) (Nat.le_of_eq rfl) (by decide) (by decide) (rest := []) rfl (hb hby at_84) ?_
    intro v12 T12 L12 X12 hQ12
    obtain ⟨rfl, N12q, e12⟩ := hQ12
    have N12 := Fr.app N0 N12q
    show own_Go p e below _ T12 (mkF m 87 #[.val (.int p1), .val (.int (1 : Int32)), .val (.ref a_NOT_EQUALS), .val (.int (1 : Int32)), .unset, .unset, .unset] [(.int (own_ie a_NOT_EQUALS a_EQUALS a_NOT_EQUALS))])
    refine own_by (fun t_ k_ => XS.istore X12.here hx rfl (hb hby at_87) rfl (l' := #[.val (.int p1), .val (.int (1 : Int32)), .val (.ref a_NOT_EQUALS), .val (.int (1 : Int32)), .val (.int (own_ie a_NOT_EQUALS a_EQUALS a_NOT_EQUALS)), .unset, .unset]) rfl k_) ?_
    show own_Go p e below _ T12 (mkF m 89 #[.val (.int p1), .val (.int (1 : Int32)), .val (.ref a_NOT_EQUALS), .val (.int (1 : Int32)), .val (.int (own_ie a_NOT_EQUALS a_EQUALS a_NOT_EQUALS)), .unset, .unset] [])
    refine own_by (fun t_ k_ => XS.aloadN X12.here hx rfl (hb hby at_89) rfl rfl k_) ?_
    show own_Go p e below _ T12 (mkF m 90 #[.val (.int p1), .val (.int (1 : Int32)), .val (.ref a_NOT_EQUALS), .val (.int (1 : Int32)), .val (.int (own_ie a_NOT_EQUALS a_EQUALS a_NOT_EQUALS)), .unset, .unset] [(.ref a_NOT_EQUALS)])
    refine own_callV (W := 0) X12 hx hZ (y := (⟨"com/example/kediri/kediri/jpql/Expression$Operator", "symbol", "()Ljava/lang/String;"⟩ : MethodName)) (z := (⟨"com/example/kediri/kediri/jpql/Expression$Operator", "symbol", "()Ljava/lang/String;"⟩ : MethodName)) hown (hw _ (List.mem_of_getElem? (i := 10) rfl)) (hw _ (List.mem_of_getElem? (i := 11) rfl)) (notFace_of_selects (args := #[]) (mvT hZ (hw _ (List.mem_of_getElem? (i := 13) rfl)))) (hw _ (List.mem_of_getElem? (i := 13) rfl)) (hw _ (List.mem_of_getElem? (i := 12) rfl)) (hw _ (List.mem_of_getElem? (i := 2) rfl)) (hw _ (List.mem_of_getElem? (i := 14) rfl)) (by decide) (by rw [hml]; rfl) (argsL := []) pd_1 rfl (a := a_NOT_EQUALS) e12 E_NOT_EQUALS (rm2 l Z a0 hw [] a_NOT_EQUALS s_NOT_EQUALS h0 n0 Z0 Y_NOT_EQUALS) (by decide) (by decide) (Nat.le_of_eq rfl) (by decide) (by decide) (rest := []) rfl (hb hby at_90) ?_
    intro v13 T13 L13 X13 hQ13
    obtain ⟨rfl, N13q, e13⟩ := hQ13
    have N13 := Fr.app N12 N13q
    show own_Go p e below _ T13 (mkF m 93 #[.val (.int p1), .val (.int (1 : Int32)), .val (.ref a_NOT_EQUALS), .val (.int (1 : Int32)), .val (.int (own_ie a_NOT_EQUALS a_EQUALS a_NOT_EQUALS)), .unset, .unset] [(.ref s_NOT_EQUALS)])
    refine own_by (fun t_ k_ => XS.astore X13.here hx rfl (hb hby at_93) rfl rfl (l' := #[.val (.int p1), .val (.int (1 : Int32)), .val (.ref a_NOT_EQUALS), .val (.int (1 : Int32)), .val (.int (own_ie a_NOT_EQUALS a_EQUALS a_NOT_EQUALS)), .val (.ref s_NOT_EQUALS), .unset]) rfl k_) ?_
    show own_Go p e below _ T13 (mkF m 95 #[.val (.int p1), .val (.int (1 : Int32)), .val (.ref a_NOT_EQUALS), .val (.int (1 : Int32)), .val (.int (own_ie a_NOT_EQUALS a_EQUALS a_NOT_EQUALS)), .val (.ref s_NOT_EQUALS), .unset] [])
    refine own_by (fun t_ k_ => XS.aload X13.here hx rfl (hb hby at_95) rfl rfl k_) ?_
    show own_Go p e below _ T13 (mkF m 97 #[.val (.int p1), .val (.int (1 : Int32)), .val (.ref a_NOT_EQUALS), .val (.int (1 : Int32)), .val (.int (own_ie a_NOT_EQUALS a_EQUALS a_NOT_EQUALS)), .val (.ref s_NOT_EQUALS), .unset] [(.ref s_NOT_EQUALS)])
    refine own_ldcC X13 hx hZ hown (hw _ (List.mem_of_getElem? (i := 17) rfl)) hwS e13 hS0 hk0 hEL (by decide) hCH [(61 : Int32)] (1 : Int32) (by decide) (by decide) (by decide) (hb hby at_97) 64 (by decide) (by decide) (by decide) (by decide) ?_
    intro b14 T14 h14 k14 d14 X14 e14 E14 hS14 hk14 hZ hown Es14 C14 W14 V14 H14
    have sz14 : n0 ≤ h14.size := Nat.le_trans Z0 E14.1
    show own_Go p e below _ T14 (mkF m 99 #[.val (.int p1), .val (.int (1 : Int32)), .val (.ref a_NOT_EQUALS), .val (.int (1 : Int32)), .val (.int (own_ie a_NOT_EQUALS a_EQUALS a_NOT_EQUALS)), .val (.ref s_NOT_EQUALS), .unset] [(.ref b14), (.ref s_NOT_EQUALS)])
    have Es_NOT_EQUALS_15 : Exa Z h14 s_NOT_EQUALS "java/lang/String" := (Exa.ext E14 Es_NOT_EQUALS)
    have C_NOT_EQUALS_16 : Fld Z h14 s_NOT_EQUALS "java/lang/String" "coder" "B" (.int (0 : Int32)) := (Fld.ext E14 C_NOT_EQUALS)
    have W_NOT_EQUALS_17 : Fld Z h14 s_NOT_EQUALS "java/lang/String" "value" "[B" (.ref b_NOT_EQUALS) := (Fld.ext E14 W_NOT_EQUALS)
    have V_NOT_EQUALS_18 : own_Arr Z h14 b_NOT_EQUALS .byte ([(60 : Int32), (62 : Int32)].map Value.int) := (own_Arr.ext V_NOT_EQUALS E14)
    have S_cs_19 : Sta Z h14 "java/lang/String" "COMPACT_STRINGS" "Z" (.int cs) := (Sta.ext E14 S_cs)
    refine own_callV (W := 0) X14 hx hZ (y := (⟨"java/lang/String", "equals", "(Ljava/lang/Object;)Z"⟩ : MethodName)) (z := (⟨"java/lang/String", "equals", "(Ljava/lang/Object;)Z"⟩ : MethodName)) hown (hw _ (List.mem_of_getElem? (i := 25) rfl)) (hw _ (List.mem_of_getElem? (i := 26) rfl)) (notFace_of_selects (args := #[]) (mvT hZ (hw _ (List.mem_of_getElem? (i := 28) rfl)))) (hw _ (List.mem_of_getElem? (i := 28) rfl)) (hw _ (List.mem_of_getElem? (i := 27) rfl)) (hw _ (List.mem_of_getElem? (i := 18) rfl)) (hw _ (List.mem_of_getElem? (i := 29) rfl)) (by decide) (by rw [hml]; rfl) (argsL := [(.ref b14)]) pd_2 rfl (a := s_NOT_EQUALS) e14 Es_NOT_EQUALS_15 (rm3 l Z a0 hw [] s_NOT_EQUALS b14 b_NOT_EQUALS d14 [(60 : Int32), (62 : Int32)] [(61 : Int32)] cs h14 n0 sz14 Es_NOT_EQUALS_15 C_NOT_EQUALS_16 W_NOT_EQUALS_17 V_NOT_EQUALS_18 Es14 C14 W14 V14 S_cs_19 hcs) (by decide) (by decide) (Nat.le_of_eq rfl) (by decide) (by decide) (rest := []) rfl (hb hby at_99) ?_
    intro v20 T20 L20 X20 hQ20
    obtain ⟨hv20, N20q, e20⟩ := hQ20
    rw [show own_eqv [(60 : Int32), (62 : Int32)] [(61 : Int32)] = (0 : Int32) from by decide] at hv20
    subst hv20
    have N20 := Fr.app N13 N20q
    show own_Go p e below _ T20 (mkF m 102 #[.val (.int p1), .val (.int (1 : Int32)), .val (.ref a_NOT_EQUALS), .val (.int (1 : Int32)), .val (.int (own_ie a_NOT_EQUALS a_EQUALS a_NOT_EQUALS)), .val (.ref s_NOT_EQUALS), .unset] [(.int (0 : Int32))])
    refine own_if X20 hx 115 (hb hby at_102) (by decide) (by decide) (fun hc => absurd (show (0 : Int32) = (0 : Int32) from by decide) (by first | exact hc | exact not_not_intro hc)) (fun _ => ?_)
    show own_Go p e below _ T20 (mkF m 105 #[.val (.int p1), .val (.int (1 : Int32)), .val (.ref a_NOT_EQUALS), .val (.int (1 : Int32)), .val (.int (own_ie a_NOT_EQUALS a_EQUALS a_NOT_EQUALS)), .val (.ref s_NOT_EQUALS), .unset] [])
    refine own_by (fun t_ k_ => XS.aload X20.here hx rfl (hb hby at_105) rfl rfl k_) ?_
    show own_Go p e below _ T20 (mkF m 107 #[.val (.int p1), .val (.int (1 : Int32)), .val (.ref a_NOT_EQUALS), .val (.int (1 : Int32)), .val (.int (own_ie a_NOT_EQUALS a_EQUALS a_NOT_EQUALS)), .val (.ref s_NOT_EQUALS), .unset] [(.ref s_NOT_EQUALS)])
    refine own_ldcC X20 hx hZ hown (hw _ (List.mem_of_getElem? (i := 43) rfl)) hwS e20 hS14 hk14 hEL (by decide) H14.1 [(60 : Int32), (62 : Int32)] (2 : Int32) (by decide) (by decide) (by decide) (hb hby at_107) 64 (by decide) (by decide) (by decide) (by decide) ?_
    intro b21 T21 h21 k21 d21 X21 e21 E21 hS21 hk21 hZ hown Es21 C21 W21 V21 H21
    have sz21 : n0 ≤ h21.size := Nat.le_trans sz14 E21.1
    show own_Go p e below _ T21 (mkF m 109 #[.val (.int p1), .val (.int (1 : Int32)), .val (.ref a_NOT_EQUALS), .val (.int (1 : Int32)), .val (.int (own_ie a_NOT_EQUALS a_EQUALS a_NOT_EQUALS)), .val (.ref s_NOT_EQUALS), .unset] [(.ref b21), (.ref s_NOT_EQUALS)])
    have Es_NOT_EQUALS_22 : Exa Z h21 s_NOT_EQUALS "java/lang/String" := (Exa.ext E21 Es_NOT_EQUALS_15)
    have C_NOT_EQUALS_23 : Fld Z h21 s_NOT_EQUALS "java/lang/String" "coder" "B" (.int (0 : Int32)) := (Fld.ext E21 C_NOT_EQUALS_16)
    have W_NOT_EQUALS_24 : Fld Z h21 s_NOT_EQUALS "java/lang/String" "value" "[B" (.ref b_NOT_EQUALS) := (Fld.ext E21 W_NOT_EQUALS_17)
    have V_NOT_EQUALS_25 : own_Arr Z h21 b_NOT_EQUALS .byte ([(60 : Int32), (62 : Int32)].map Value.int) := (own_Arr.ext V_NOT_EQUALS_18 E21)
    have S_cs_26 : Sta Z h21 "java/lang/String" "COMPACT_STRINGS" "Z" (.int cs) := (Sta.ext E21 S_cs_19)
    refine own_callV (W := 0) X21 hx hZ (y := (⟨"java/lang/String", "equals", "(Ljava/lang/Object;)Z"⟩ : MethodName)) (z := (⟨"java/lang/String", "equals", "(Ljava/lang/Object;)Z"⟩ : MethodName)) hown (hw _ (List.mem_of_getElem? (i := 25) rfl)) (hw _ (List.mem_of_getElem? (i := 26) rfl)) (notFace_of_selects (args := #[]) (mvT hZ (hw _ (List.mem_of_getElem? (i := 28) rfl)))) (hw _ (List.mem_of_getElem? (i := 28) rfl)) (hw _ (List.mem_of_getElem? (i := 27) rfl)) (hw _ (List.mem_of_getElem? (i := 18) rfl)) (hw _ (List.mem_of_getElem? (i := 29) rfl)) (by decide) (by rw [hml]; rfl) (argsL := [(.ref b21)]) pd_2 rfl (a := s_NOT_EQUALS) e21 Es_NOT_EQUALS_22 (rm3 l Z a0 hw [] s_NOT_EQUALS b21 b_NOT_EQUALS d21 [(60 : Int32), (62 : Int32)] [(60 : Int32), (62 : Int32)] cs h21 n0 sz21 Es_NOT_EQUALS_22 C_NOT_EQUALS_23 W_NOT_EQUALS_24 V_NOT_EQUALS_25 Es21 C21 W21 V21 S_cs_26 hcs) (by decide) (by decide) (Nat.le_of_eq rfl) (by decide) (by decide) (rest := []) rfl (hb hby at_109) ?_
    intro v27 T27 L27 X27 hQ27
    obtain ⟨hv27, N27q, e27⟩ := hQ27
    rw [show own_eqv [(60 : Int32), (62 : Int32)] [(60 : Int32), (62 : Int32)] = (1 : Int32) from by decide] at hv27
    subst hv27
    have N27 := Fr.app N20 N27q
    show own_Go p e below _ T27 (mkF m 112 #[.val (.int p1), .val (.int (1 : Int32)), .val (.ref a_NOT_EQUALS), .val (.int (1 : Int32)), .val (.int (own_ie a_NOT_EQUALS a_EQUALS a_NOT_EQUALS)), .val (.ref s_NOT_EQUALS), .unset] [(.int (1 : Int32))])
    refine own_if X27 hx 119 (hb hby at_112) (by decide) (by decide) (fun hc => absurd (show ¬ (1 : Int32) = (0 : Int32) from by decide) (by first | exact hc | exact not_not_intro hc)) (fun _ => ?_)
    show own_Go p e below _ T27 (mkF m 115 #[.val (.int p1), .val (.int (1 : Int32)), .val (.ref a_NOT_EQUALS), .val (.int (1 : Int32)), .val (.int (own_ie a_NOT_EQUALS a_EQUALS a_NOT_EQUALS)), .val (.ref s_NOT_EQUALS), .unset] [])
    refine own_by (fun t_ k_ => XS.iconst X27.here hx rfl (hb hby at_115) k_) ?_
    show own_Go p e below _ T27 (mkF m 116 #[.val (.int p1), .val (.int (1 : Int32)), .val (.ref a_NOT_EQUALS), .val (.int (1 : Int32)), .val (.int (own_ie a_NOT_EQUALS a_EQUALS a_NOT_EQUALS)), .val (.ref s_NOT_EQUALS), .unset] [(.int (1 : Int32))])
    refine own_by (fun t_ k_ => XS.goto X27.here hx rfl (pc0 := 116) (pc' := 120) rfl (hb hby at_116) (by decide) (by decide) k_) ?_
    show own_Go p e below _ T27 (mkF m 120 #[.val (.int p1), .val (.int (1 : Int32)), .val (.ref a_NOT_EQUALS), .val (.int (1 : Int32)), .val (.int (own_ie a_NOT_EQUALS a_EQUALS a_NOT_EQUALS)), .val (.ref s_NOT_EQUALS), .unset] [(.int (1 : Int32))])
    refine own_by (fun t_ k_ => XS.istore X27.here hx rfl (hb hby at_120) rfl (l' := #[.val (.int p1), .val (.int (1 : Int32)), .val (.ref a_NOT_EQUALS), .val (.int (1 : Int32)), .val (.int (own_ie a_NOT_EQUALS a_EQUALS a_NOT_EQUALS)), .val (.ref s_NOT_EQUALS), .val (.int (1 : Int32))]) rfl k_) ?_
    show own_Go p e below _ T27 (mkF m 122 #[.val (.int p1), .val (.int (1 : Int32)), .val (.ref a_NOT_EQUALS), .val (.int (1 : Int32)), .val (.int (own_ie a_NOT_EQUALS a_EQUALS a_NOT_EQUALS)), .val (.ref s_NOT_EQUALS), .val (.int (1 : Int32))] [])
    refine own_by (fun t_ k_ => XS.iload X27.here hx rfl (hb hby at_122) rfl k_) ?_
    show own_Go p e below _ T27 (mkF m 124 #[.val (.int p1), .val (.int (1 : Int32)), .val (.ref a_NOT_EQUALS), .val (.int (1 : Int32)), .val (.int (own_ie a_NOT_EQUALS a_EQUALS a_NOT_EQUALS)), .val (.ref s_NOT_EQUALS), .val (.int (1 : Int32))] [(.int (own_ie a_NOT_EQUALS a_EQUALS a_NOT_EQUALS))])
    refine own_by (fun t_ k_ => XS.iloadN X27.here hx rfl (hb hby at_124) rfl k_) ?_
    show own_Go p e below _ T27 (mkF m 125 #[.val (.int p1), .val (.int (1 : Int32)), .val (.ref a_NOT_EQUALS), .val (.int (1 : Int32)), .val (.int (own_ie a_NOT_EQUALS a_EQUALS a_NOT_EQUALS)), .val (.ref s_NOT_EQUALS), .val (.int (1 : Int32))] [(.int (1 : Int32)), (.int (own_ie a_NOT_EQUALS a_EQUALS a_NOT_EQUALS))])
    refine own_icmp X27 hx 139 (hb hby at_125) (by decide) (by decide) (fun hc => absurd (show (own_ie a_NOT_EQUALS a_EQUALS a_NOT_EQUALS) = (1 : Int32) from by simp [own_ie]) (by first | exact hc | exact not_not_intro hc)) (fun _ => ?_)
    show own_Go p e below _ T27 (mkF m 128 #[.val (.int p1), .val (.int (1 : Int32)), .val (.ref a_NOT_EQUALS), .val (.int (1 : Int32)), .val (.int (own_ie a_NOT_EQUALS a_EQUALS a_NOT_EQUALS)), .val (.ref s_NOT_EQUALS), .val (.int (1 : Int32))] [])
    refine own_by (fun t_ k_ => XS.iload X27.here hx rfl (hb hby at_128) rfl k_) ?_
    show own_Go p e below _ T27 (mkF m 130 #[.val (.int p1), .val (.int (1 : Int32)), .val (.ref a_NOT_EQUALS), .val (.int (1 : Int32)), .val (.int (own_ie a_NOT_EQUALS a_EQUALS a_NOT_EQUALS)), .val (.ref s_NOT_EQUALS), .val (.int (1 : Int32))] [(.int (own_ie a_NOT_EQUALS a_EQUALS a_NOT_EQUALS))])
    refine own_by (fun t_ k_ => XS.iload X27.here hx rfl (hb hby at_130) rfl k_) ?_
    show own_Go p e below _ T27 (mkF m 132 #[.val (.int p1), .val (.int (1 : Int32)), .val (.ref a_NOT_EQUALS), .val (.int (1 : Int32)), .val (.int (own_ie a_NOT_EQUALS a_EQUALS a_NOT_EQUALS)), .val (.ref s_NOT_EQUALS), .val (.int (1 : Int32))] [(.int (1 : Int32)), (.int (own_ie a_NOT_EQUALS a_EQUALS a_NOT_EQUALS))])
    refine own_icmp X27 hx 139 (hb hby at_132) (by decide) (by decide) (fun hc => absurd (show (own_ie a_NOT_EQUALS a_EQUALS a_NOT_EQUALS) = (1 : Int32) from by simp [own_ie]) (by first | exact hc | exact not_not_intro hc)) (fun _ => ?_)
    show own_Go p e below _ T27 (mkF m 135 #[.val (.int p1), .val (.int (1 : Int32)), .val (.ref a_NOT_EQUALS), .val (.int (1 : Int32)), .val (.int (own_ie a_NOT_EQUALS a_EQUALS a_NOT_EQUALS)), .val (.ref s_NOT_EQUALS), .val (.int (1 : Int32))] [])
    refine own_by (fun t_ k_ => XS.iconst X27.here hx rfl (hb hby at_135) k_) ?_
    show own_Go p e below _ T27 (mkF m 136 #[.val (.int p1), .val (.int (1 : Int32)), .val (.ref a_NOT_EQUALS), .val (.int (1 : Int32)), .val (.int (own_ie a_NOT_EQUALS a_EQUALS a_NOT_EQUALS)), .val (.ref s_NOT_EQUALS), .val (.int (1 : Int32))] [(.int (1 : Int32))])
    refine own_by (fun t_ k_ => XS.goto X27.here hx rfl (pc0 := 136) (pc' := 140) rfl (hb hby at_136) (by decide) (by decide) k_) ?_
    show own_Go p e below _ T27 (mkF m 140 #[.val (.int p1), .val (.int (1 : Int32)), .val (.ref a_NOT_EQUALS), .val (.int (1 : Int32)), .val (.int (own_ie a_NOT_EQUALS a_EQUALS a_NOT_EQUALS)), .val (.ref s_NOT_EQUALS), .val (.int (1 : Int32))] [(.int (1 : Int32))])
    refine own_retZw X27 hx hS21 hk21 hlk Bd.returns (by decide) (hb hby at_140) e27 (by decide) (by decide) ?_
    exact ⟨rfl, N27⟩
  · show own_Go p e below _ s₁ (mkF m 8 #[.val (.int p1), .val (.int (2 : Int32)), .unset, .unset, .unset, .unset, .unset] [])
    refine own_by (fun t_ k_ => XS.iloadN X0.here hx rfl (hb hby at_8) rfl k_) ?_
    show own_Go p e below _ s₁ (mkF m 9 #[.val (.int p1), .val (.int (2 : Int32)), .unset, .unset, .unset, .unset, .unset] [(.int (2 : Int32))])
    refine own_if X0 hx 21 (hb hby at_9) (by decide) (by decide) (fun _ => ?_) (fun hc => absurd (show ¬ (2 : Int32) = (0 : Int32) from by decide) (by first | exact hc | exact not_not_intro hc))
    show own_Go p e below _ s₁ (mkF m 21 #[.val (.int p1), .val (.int (2 : Int32)), .unset, .unset, .unset, .unset, .unset] [])
    refine own_by (fun t_ k_ => XS.iloadN X0.here hx rfl (hb hby at_21) rfl k_) ?_
    show own_Go p e below _ s₁ (mkF m 22 #[.val (.int p1), .val (.int (2 : Int32)), .unset, .unset, .unset, .unset, .unset] [(.int (2 : Int32))])
    refine own_by (fun t_ k_ => XS.iconst X0.here hx rfl (hb hby at_22) k_) ?_
    show own_Go p e below _ s₁ (mkF m 23 #[.val (.int p1), .val (.int (2 : Int32)), .unset, .unset, .unset, .unset, .unset] [(.int (1 : Int32)), (.int (2 : Int32))])
    refine own_icmp X0 hx 35 (hb hby at_23) (by decide) (by decide) (fun _ => ?_) (fun hc => absurd (show ¬ (2 : Int32) = (1 : Int32) from by decide) (by first | exact hc | exact not_not_intro hc))
    show own_Go p e below _ s₁ (mkF m 35 #[.val (.int p1), .val (.int (2 : Int32)), .unset, .unset, .unset, .unset, .unset] [])
    refine own_by (fun t_ k_ => XS.iloadN X0.here hx rfl (hb hby at_35) rfl k_) ?_
    show own_Go p e below _ s₁ (mkF m 36 #[.val (.int p1), .val (.int (2 : Int32)), .unset, .unset, .unset, .unset, .unset] [(.int (2 : Int32))])
    refine own_by (fun t_ k_ => XS.iconst X0.here hx rfl (hb hby at_36) k_) ?_
    show own_Go p e below _ s₁ (mkF m 37 #[.val (.int p1), .val (.int (2 : Int32)), .unset, .unset, .unset, .unset, .unset] [(.int (2 : Int32)), (.int (2 : Int32))])
    refine own_icmp X0 hx 49 (hb hby at_37) (by decide) (by decide) (fun hc => absurd (show (2 : Int32) = (2 : Int32) from by decide) (by first | exact hc | exact not_not_intro hc)) (fun _ => ?_)
    show own_Go p e below _ s₁ (mkF m 40 #[.val (.int p1), .val (.int (2 : Int32)), .unset, .unset, .unset, .unset, .unset] [])
    refine own_getS X0 hx hZ hown (hw _ (List.mem_of_getElem? (i := 44) rfl)) Via.refl e0 S_LESS (hb hby at_40) ?_
    intro T28 X28 e28
    show own_Go p e below _ T28 (mkF m 43 #[.val (.int p1), .val (.int (2 : Int32)), .unset, .unset, .unset, .unset, .unset] [(.ref a_LESS)])
    refine own_by (fun t_ k_ => XS.astoreN X28.here hx rfl (hb hby at_43) rfl rfl (l' := #[.val (.int p1), .val (.int (2 : Int32)), .val (.ref a_LESS), .unset, .unset, .unset, .unset]) rfl k_) ?_
    show own_Go p e below _ T28 (mkF m 44 #[.val (.int p1), .val (.int (2 : Int32)), .val (.ref a_LESS), .unset, .unset, .unset, .unset] [])
    refine own_by (fun t_ k_ => XS.iconst X28.here hx rfl (hb hby at_44) k_) ?_
    show own_Go p e below _ T28 (mkF m 45 #[.val (.int p1), .val (.int (2 : Int32)), .val (.ref a_LESS), .unset, .unset, .unset, .unset] [(.int (0 : Int32))])
    refine own_by (fun t_ k_ => XS.istoreN X28.here hx rfl (hb hby at_45) rfl (l' := #[.val (.int p1), .val (.int (2 : Int32)), .val (.ref a_LESS), .val (.int (0 : Int32)), .unset, .unset, .unset]) rfl k_) ?_
    show own_Go p e below _ T28 (mkF m 46 #[.val (.int p1), .val (.int (2 : Int32)), .val (.ref a_LESS), .val (.int (0 : Int32)), .unset, .unset, .unset] [])
    refine own_by (fun t_ k_ => XS.goto X28.here hx rfl (pc0 := 46) (pc' := 83) rfl (hb hby at_46) (by decide) (by decide) k_) ?_
    show own_Go p e below _ T28 (mkF m 83 #[.val (.int p1), .val (.int (2 : Int32)), .val (.ref a_LESS), .val (.int (0 : Int32)), .unset, .unset, .unset] [])
    refine own_by (fun t_ k_ => XS.aloadN X28.here hx rfl (hb hby at_83) rfl rfl k_) ?_
    show own_Go p e below _ T28 (mkF m 84 #[.val (.int p1), .val (.int (2 : Int32)), .val (.ref a_LESS), .val (.int (0 : Int32)), .unset, .unset, .unset] [(.ref a_LESS)])
    refine own_callV (W := 0) X28 hx hZ (y := (⟨"com/example/kediri/kediri/jpql/Expression$Operator", "isEquality", "()Z"⟩ : MethodName)) (z := (⟨"com/example/kediri/kediri/jpql/Expression$Operator", "isEquality", "()Z"⟩ : MethodName)) hown (hw _ (List.mem_of_getElem? (i := 4) rfl)) (hw _ (List.mem_of_getElem? (i := 5) rfl)) (notFace_of_selects (args := #[]) (mvT hZ (hw _ (List.mem_of_getElem? (i := 7) rfl)))) (hw _ (List.mem_of_getElem? (i := 7) rfl)) (hw _ (List.mem_of_getElem? (i := 6) rfl)) (hw _ (List.mem_of_getElem? (i := 2) rfl)) (hw _ (List.mem_of_getElem? (i := 8) rfl)) (by decide) (by rw [hml]; rfl) (argsL := []) pd_0 rfl (a := a_LESS) e28 E_LESS (rm1 l Z a0 hw [] a_LESS a_EQUALS a_NOT_EQUALS h0 n0 Z0 S_EQUALS S_NOT_EQUALS) (by decide) (by decide) (Nat.le_of_eq rfl) (by decide) (by decide) (rest := []) rfl (hb hby at_84) ?_
    intro v29 T29 L29 X29 hQ29
    obtain ⟨rfl, N29q, e29⟩ := hQ29
    have N29 := Fr.app N0 N29q
    show own_Go p e below _ T29 (mkF m 87 #[.val (.int p1), .val (.int (2 : Int32)), .val (.ref a_LESS), .val (.int (0 : Int32)), .unset, .unset, .unset] [(.int (own_ie a_LESS a_EQUALS a_NOT_EQUALS))])
    refine own_by (fun t_ k_ => XS.istore X29.here hx rfl (hb hby at_87) rfl (l' := #[.val (.int p1), .val (.int (2 : Int32)), .val (.ref a_LESS), .val (.int (0 : Int32)), .val (.int (own_ie a_LESS a_EQUALS a_NOT_EQUALS)), .unset, .unset]) rfl k_) ?_
    show own_Go p e below _ T29 (mkF m 89 #[.val (.int p1), .val (.int (2 : Int32)), .val (.ref a_LESS), .val (.int (0 : Int32)), .val (.int (own_ie a_LESS a_EQUALS a_NOT_EQUALS)), .unset, .unset] [])
    refine own_by (fun t_ k_ => XS.aloadN X29.here hx rfl (hb hby at_89) rfl rfl k_) ?_
    show own_Go p e below _ T29 (mkF m 90 #[.val (.int p1), .val (.int (2 : Int32)), .val (.ref a_LESS), .val (.int (0 : Int32)), .val (.int (own_ie a_LESS a_EQUALS a_NOT_EQUALS)), .unset, .unset] [(.ref a_LESS)])
    refine own_callV (W := 0) X29 hx hZ (y := (⟨"com/example/kediri/kediri/jpql/Expression$Operator", "symbol", "()Ljava/lang/String;"⟩ : MethodName)) (z := (⟨"com/example/kediri/kediri/jpql/Expression$Operator", "symbol", "()Ljava/lang/String;"⟩ : MethodName)) hown (hw _ (List.mem_of_getElem? (i := 10) rfl)) (hw _ (List.mem_of_getElem? (i := 11) rfl)) (notFace_of_selects (args := #[]) (mvT hZ (hw _ (List.mem_of_getElem? (i := 13) rfl)))) (hw _ (List.mem_of_getElem? (i := 13) rfl)) (hw _ (List.mem_of_getElem? (i := 12) rfl)) (hw _ (List.mem_of_getElem? (i := 2) rfl)) (hw _ (List.mem_of_getElem? (i := 14) rfl)) (by decide) (by rw [hml]; rfl) (argsL := []) pd_1 rfl (a := a_LESS) e29 E_LESS (rm2 l Z a0 hw [] a_LESS s_LESS h0 n0 Z0 Y_LESS) (by decide) (by decide) (Nat.le_of_eq rfl) (by decide) (by decide) (rest := []) rfl (hb hby at_90) ?_
    intro v30 T30 L30 X30 hQ30
    obtain ⟨rfl, N30q, e30⟩ := hQ30
    have N30 := Fr.app N29 N30q
    show own_Go p e below _ T30 (mkF m 93 #[.val (.int p1), .val (.int (2 : Int32)), .val (.ref a_LESS), .val (.int (0 : Int32)), .val (.int (own_ie a_LESS a_EQUALS a_NOT_EQUALS)), .unset, .unset] [(.ref s_LESS)])
    refine own_by (fun t_ k_ => XS.astore X30.here hx rfl (hb hby at_93) rfl rfl (l' := #[.val (.int p1), .val (.int (2 : Int32)), .val (.ref a_LESS), .val (.int (0 : Int32)), .val (.int (own_ie a_LESS a_EQUALS a_NOT_EQUALS)), .val (.ref s_LESS), .unset]) rfl k_) ?_
    show own_Go p e below _ T30 (mkF m 95 #[.val (.int p1), .val (.int (2 : Int32)), .val (.ref a_LESS), .val (.int (0 : Int32)), .val (.int (own_ie a_LESS a_EQUALS a_NOT_EQUALS)), .val (.ref s_LESS), .unset] [])
    refine own_by (fun t_ k_ => XS.aload X30.here hx rfl (hb hby at_95) rfl rfl k_) ?_
    show own_Go p e below _ T30 (mkF m 97 #[.val (.int p1), .val (.int (2 : Int32)), .val (.ref a_LESS), .val (.int (0 : Int32)), .val (.int (own_ie a_LESS a_EQUALS a_NOT_EQUALS)), .val (.ref s_LESS), .unset] [(.ref s_LESS)])
    refine own_ldcC X30 hx hZ hown (hw _ (List.mem_of_getElem? (i := 17) rfl)) hwS e30 hS0 hk0 hEL (by decide) hCH [(61 : Int32)] (1 : Int32) (by decide) (by decide) (by decide) (hb hby at_97) 64 (by decide) (by decide) (by decide) (by decide) ?_
    intro b31 T31 h31 k31 d31 X31 e31 E31 hS31 hk31 hZ hown Es31 C31 W31 V31 H31
    have sz31 : n0 ≤ h31.size := Nat.le_trans Z0 E31.1
    show own_Go p e below _ T31 (mkF m 99 #[.val (.int p1), .val (.int (2 : Int32)), .val (.ref a_LESS), .val (.int (0 : Int32)), .val (.int (own_ie a_LESS a_EQUALS a_NOT_EQUALS)), .val (.ref s_LESS), .unset] [(.ref b31), (.ref s_LESS)])
    have Es_LESS_32 : Exa Z h31 s_LESS "java/lang/String" := (Exa.ext E31 Es_LESS)
    have C_LESS_33 : Fld Z h31 s_LESS "java/lang/String" "coder" "B" (.int (0 : Int32)) := (Fld.ext E31 C_LESS)
    have W_LESS_34 : Fld Z h31 s_LESS "java/lang/String" "value" "[B" (.ref b_LESS) := (Fld.ext E31 W_LESS)
    have V_LESS_35 : own_Arr Z h31 b_LESS .byte ([(60 : Int32)].map Value.int) := (own_Arr.ext V_LESS E31)
    have S_cs_36 : Sta Z h31 "java/lang/String" "COMPACT_STRINGS" "Z" (.int cs) := (Sta.ext E31 S_cs)
    refine own_callV (W := 0) X31 hx hZ (y := (⟨"java/lang/String", "equals", "(Ljava/lang/Object;)Z"⟩ : MethodName)) (z := (⟨"java/lang/String", "equals", "(Ljava/lang/Object;)Z"⟩ : MethodName)) hown (hw _ (List.mem_of_getElem? (i := 25) rfl)) (hw _ (List.mem_of_getElem? (i := 26) rfl)) (notFace_of_selects (args := #[]) (mvT hZ (hw _ (List.mem_of_getElem? (i := 28) rfl)))) (hw _ (List.mem_of_getElem? (i := 28) rfl)) (hw _ (List.mem_of_getElem? (i := 27) rfl)) (hw _ (List.mem_of_getElem? (i := 18) rfl)) (hw _ (List.mem_of_getElem? (i := 29) rfl)) (by decide) (by rw [hml]; rfl) (argsL := [(.ref b31)]) pd_2 rfl (a := s_LESS) e31 Es_LESS_32 (rm3 l Z a0 hw [] s_LESS b31 b_LESS d31 [(60 : Int32)] [(61 : Int32)] cs h31 n0 sz31 Es_LESS_32 C_LESS_33 W_LESS_34 V_LESS_35 Es31 C31 W31 V31 S_cs_36 hcs) (by decide) (by decide) (Nat.le_of_eq rfl) (by decide) (by decide) (rest := []) rfl (hb hby at_99) ?_
    intro v37 T37 L37 X37 hQ37
    obtain ⟨hv37, N37q, e37⟩ := hQ37
    rw [show own_eqv [(60 : Int32)] [(61 : Int32)] = (0 : Int32) from by decide] at hv37
    subst hv37
    have N37 := Fr.app N30 N37q
    show own_Go p e below _ T37 (mkF m 102 #[.val (.int p1), .val (.int (2 : Int32)), .val (.ref a_LESS), .val (.int (0 : Int32)), .val (.int (own_ie a_LESS a_EQUALS a_NOT_EQUALS)), .val (.ref s_LESS), .unset] [(.int (0 : Int32))])
    refine own_if X37 hx 115 (hb hby at_102) (by decide) (by decide) (fun hc => absurd (show (0 : Int32) = (0 : Int32) from by decide) (by first | exact hc | exact not_not_intro hc)) (fun _ => ?_)
    show own_Go p e below _ T37 (mkF m 105 #[.val (.int p1), .val (.int (2 : Int32)), .val (.ref a_LESS), .val (.int (0 : Int32)), .val (.int (own_ie a_LESS a_EQUALS a_NOT_EQUALS)), .val (.ref s_LESS), .unset] [])
    refine own_by (fun t_ k_ => XS.aload X37.here hx rfl (hb hby at_105) rfl rfl k_) ?_
    show own_Go p e below _ T37 (mkF m 107 #[.val (.int p1), .val (.int (2 : Int32)), .val (.ref a_LESS), .val (.int (0 : Int32)), .val (.int (own_ie a_LESS a_EQUALS a_NOT_EQUALS)), .val (.ref s_LESS), .unset] [(.ref s_LESS)])
    refine own_ldcC X37 hx hZ hown (hw _ (List.mem_of_getElem? (i := 43) rfl)) hwS e37 hS31 hk31 hEL (by decide) H31.1 [(60 : Int32), (62 : Int32)] (2 : Int32) (by decide) (by decide) (by decide) (hb hby at_107) 64 (by decide) (by decide) (by decide) (by decide) ?_
    intro b38 T38 h38 k38 d38 X38 e38 E38 hS38 hk38 hZ hown Es38 C38 W38 V38 H38
    have sz38 : n0 ≤ h38.size := Nat.le_trans sz31 E38.1
    show own_Go p e below _ T38 (mkF m 109 #[.val (.int p1), .val (.int (2 : Int32)), .val (.ref a_LESS), .val (.int (0 : Int32)), .val (.int (own_ie a_LESS a_EQUALS a_NOT_EQUALS)), .val (.ref s_LESS), .unset] [(.ref b38), (.ref s_LESS)])
    have Es_LESS_39 : Exa Z h38 s_LESS "java/lang/String" := (Exa.ext E38 Es_LESS_32)
    have C_LESS_40 : Fld Z h38 s_LESS "java/lang/String" "coder" "B" (.int (0 : Int32)) := (Fld.ext E38 C_LESS_33)
    have W_LESS_41 : Fld Z h38 s_LESS "java/lang/String" "value" "[B" (.ref b_LESS) := (Fld.ext E38 W_LESS_34)
    have V_LESS_42 : own_Arr Z h38 b_LESS .byte ([(60 : Int32)].map Value.int) := (own_Arr.ext V_LESS_35 E38)
    have S_cs_43 : Sta Z h38 "java/lang/String" "COMPACT_STRINGS" "Z" (.int cs) := (Sta.ext E38 S_cs_36)
    refine own_callV (W := 0) X38 hx hZ (y := (⟨"java/lang/String", "equals", "(Ljava/lang/Object;)Z"⟩ : MethodName)) (z := (⟨"java/lang/String", "equals", "(Ljava/lang/Object;)Z"⟩ : MethodName)) hown (hw _ (List.mem_of_getElem? (i := 25) rfl)) (hw _ (List.mem_of_getElem? (i := 26) rfl)) (notFace_of_selects (args := #[]) (mvT hZ (hw _ (List.mem_of_getElem? (i := 28) rfl)))) (hw _ (List.mem_of_getElem? (i := 28) rfl)) (hw _ (List.mem_of_getElem? (i := 27) rfl)) (hw _ (List.mem_of_getElem? (i := 18) rfl)) (hw _ (List.mem_of_getElem? (i := 29) rfl)) (by decide) (by rw [hml]; rfl) (argsL := [(.ref b38)]) pd_2 rfl (a := s_LESS) e38 Es_LESS_39 (rm3 l Z a0 hw [] s_LESS b38 b_LESS d38 [(60 : Int32)] [(60 : Int32), (62 : Int32)] cs h38 n0 sz38 Es_LESS_39 C_LESS_40 W_LESS_41 V_LESS_42 Es38 C38 W38 V38 S_cs_43 hcs) (by decide) (by decide) (Nat.le_of_eq rfl) (by decide) (by decide) (rest := []) rfl (hb hby at_109) ?_
    intro v44 T44 L44 X44 hQ44
    obtain ⟨hv44, N44q, e44⟩ := hQ44
    rw [show own_eqv [(60 : Int32)] [(60 : Int32), (62 : Int32)] = (0 : Int32) from by decide] at hv44
    subst hv44
    have N44 := Fr.app N37 N44q
    show own_Go p e below _ T44 (mkF m 112 #[.val (.int p1), .val (.int (2 : Int32)), .val (.ref a_LESS), .val (.int (0 : Int32)), .val (.int (own_ie a_LESS a_EQUALS a_NOT_EQUALS)), .val (.ref s_LESS), .unset] [(.int (0 : Int32))])
    refine own_if X44 hx 119 (hb hby at_112) (by decide) (by decide) (fun _ => ?_) (fun hc => absurd (show (0 : Int32) = (0 : Int32) from by decide) (by first | exact hc | exact not_not_intro hc))
    show own_Go p e below _ T44 (mkF m 119 #[.val (.int p1), .val (.int (2 : Int32)), .val (.ref a_LESS), .val (.int (0 : Int32)), .val (.int (own_ie a_LESS a_EQUALS a_NOT_EQUALS)), .val (.ref s_LESS), .unset] [])
    refine own_by (fun t_ k_ => XS.iconst X44.here hx rfl (hb hby at_119) k_) ?_
    show own_Go p e below _ T44 (mkF m 120 #[.val (.int p1), .val (.int (2 : Int32)), .val (.ref a_LESS), .val (.int (0 : Int32)), .val (.int (own_ie a_LESS a_EQUALS a_NOT_EQUALS)), .val (.ref s_LESS), .unset] [(.int (0 : Int32))])
    refine own_by (fun t_ k_ => XS.istore X44.here hx rfl (hb hby at_120) rfl (l' := #[.val (.int p1), .val (.int (2 : Int32)), .val (.ref a_LESS), .val (.int (0 : Int32)), .val (.int (own_ie a_LESS a_EQUALS a_NOT_EQUALS)), .val (.ref s_LESS), .val (.int (0 : Int32))]) rfl k_) ?_
    show own_Go p e below _ T44 (mkF m 122 #[.val (.int p1), .val (.int (2 : Int32)), .val (.ref a_LESS), .val (.int (0 : Int32)), .val (.int (own_ie a_LESS a_EQUALS a_NOT_EQUALS)), .val (.ref s_LESS), .val (.int (0 : Int32))] [])
    refine own_by (fun t_ k_ => XS.iload X44.here hx rfl (hb hby at_122) rfl k_) ?_
    show own_Go p e below _ T44 (mkF m 124 #[.val (.int p1), .val (.int (2 : Int32)), .val (.ref a_LESS), .val (.int (0 : Int32)), .val (.int (own_ie a_LESS a_EQUALS a_NOT_EQUALS)), .val (.ref s_LESS), .val (.int (0 : Int32))] [(.int (own_ie a_LESS a_EQUALS a_NOT_EQUALS))])
    refine own_by (fun t_ k_ => XS.iloadN X44.here hx rfl (hb hby at_124) rfl k_) ?_
    show own_Go p e below _ T44 (mkF m 125 #[.val (.int p1), .val (.int (2 : Int32)), .val (.ref a_LESS), .val (.int (0 : Int32)), .val (.int (own_ie a_LESS a_EQUALS a_NOT_EQUALS)), .val (.ref s_LESS), .val (.int (0 : Int32))] [(.int (0 : Int32)), (.int (own_ie a_LESS a_EQUALS a_NOT_EQUALS))])
    refine own_icmp X44 hx 139 (hb hby at_125) (by decide) (by decide) (fun hc => absurd (show (own_ie a_LESS a_EQUALS a_NOT_EQUALS) = (0 : Int32) from by simp [own_ie, Fld.ne O_LESS O_EQUALS (by decide), Fld.ne O_LESS O_NOT_EQUALS (by decide)]) (by first | exact hc | exact not_not_intro hc)) (fun _ => ?_)
    show own_Go p e below _ T44 (mkF m 128 #[.val (.int p1), .val (.int (2 : Int32)), .val (.ref a_LESS), .val (.int (0 : Int32)), .val (.int (own_ie a_LESS a_EQUALS a_NOT_EQUALS)), .val (.ref s_LESS), .val (.int (0 : Int32))] [])
    refine own_by (fun t_ k_ => XS.iload X44.here hx rfl (hb hby at_128) rfl k_) ?_
    show own_Go p e below _ T44 (mkF m 130 #[.val (.int p1), .val (.int (2 : Int32)), .val (.ref a_LESS), .val (.int (0 : Int32)), .val (.int (own_ie a_LESS a_EQUALS a_NOT_EQUALS)), .val (.ref s_LESS), .val (.int (0 : Int32))] [(.int (own_ie a_LESS a_EQUALS a_NOT_EQUALS))])
    refine own_by (fun t_ k_ => XS.iload X44.here hx rfl (hb hby at_130) rfl k_) ?_
    show own_Go p e below _ T44 (mkF m 132 #[.val (.int p1), .val (.int (2 : Int32)), .val (.ref a_LESS), .val (.int (0 : Int32)), .val (.int (own_ie a_LESS a_EQUALS a_NOT_EQUALS)), .val (.ref s_LESS), .val (.int (0 : Int32))] [(.int (0 : Int32)), (.int (own_ie a_LESS a_EQUALS a_NOT_EQUALS))])
    refine own_icmp X44 hx 139 (hb hby at_132) (by decide) (by decide) (fun hc => absurd (show (own_ie a_LESS a_EQUALS a_NOT_EQUALS) = (0 : Int32) from by simp [own_ie, Fld.ne O_LESS O_EQUALS (by decide), Fld.ne O_LESS O_NOT_EQUALS (by decide)]) (by first | exact hc | exact not_not_intro hc)) (fun _ => ?_)
    show own_Go p e below _ T44 (mkF m 135 #[.val (.int p1), .val (.int (2 : Int32)), .val (.ref a_LESS), .val (.int (0 : Int32)), .val (.int (own_ie a_LESS a_EQUALS a_NOT_EQUALS)), .val (.ref s_LESS), .val (.int (0 : Int32))] [])
    refine own_by (fun t_ k_ => XS.iconst X44.here hx rfl (hb hby at_135) k_) ?_
    show own_Go p e below _ T44 (mkF m 136 #[.val (.int p1), .val (.int (2 : Int32)), .val (.ref a_LESS), .val (.int (0 : Int32)), .val (.int (own_ie a_LESS a_EQUALS a_NOT_EQUALS)), .val (.ref s_LESS), .val (.int (0 : Int32))] [(.int (1 : Int32))])
    refine own_by (fun t_ k_ => XS.goto X44.here hx rfl (pc0 := 136) (pc' := 140) rfl (hb hby at_136) (by decide) (by decide) k_) ?_
    show own_Go p e below _ T44 (mkF m 140 #[.val (.int p1), .val (.int (2 : Int32)), .val (.ref a_LESS), .val (.int (0 : Int32)), .val (.int (own_ie a_LESS a_EQUALS a_NOT_EQUALS)), .val (.ref s_LESS), .val (.int (0 : Int32))] [(.int (1 : Int32))])
    refine own_retZw X44 hx hS38 hk38 hlk Bd.returns (by decide) (hb hby at_140) e44 (by decide) (by decide) ?_
    exact ⟨rfl, N44⟩
  · show own_Go p e below _ s₁ (mkF m 8 #[.val (.int p1), .val (.int (3 : Int32)), .unset, .unset, .unset, .unset, .unset] [])
    refine own_by (fun t_ k_ => XS.iloadN X0.here hx rfl (hb hby at_8) rfl k_) ?_
    show own_Go p e below _ s₁ (mkF m 9 #[.val (.int p1), .val (.int (3 : Int32)), .unset, .unset, .unset, .unset, .unset] [(.int (3 : Int32))])
    refine own_if X0 hx 21 (hb hby at_9) (by decide) (by decide) (fun _ => ?_) (fun hc => absurd (show ¬ (3 : Int32) = (0 : Int32) from by decide) (by first | exact hc | exact not_not_intro hc))
    show own_Go p e below _ s₁ (mkF m 21 #[.val (.int p1), .val (.int (3 : Int32)), .unset, .unset, .unset, .unset, .unset] [])
    refine own_by (fun t_ k_ => XS.iloadN X0.here hx rfl (hb hby at_21) rfl k_) ?_
    show own_Go p e below _ s₁ (mkF m 22 #[.val (.int p1), .val (.int (3 : Int32)), .unset, .unset, .unset, .unset, .unset] [(.int (3 : Int32))])
    refine own_by (fun t_ k_ => XS.iconst X0.here hx rfl (hb hby at_22) k_) ?_
    show own_Go p e below _ s₁ (mkF m 23 #[.val (.int p1), .val (.int (3 : Int32)), .unset, .unset, .unset, .unset, .unset] [(.int (1 : Int32)), (.int (3 : Int32))])
    refine own_icmp X0 hx 35 (hb hby at_23) (by decide) (by decide) (fun _ => ?_) (fun hc => absurd (show ¬ (3 : Int32) = (1 : Int32) from by decide) (by first | exact hc | exact not_not_intro hc))
    show own_Go p e below _ s₁ (mkF m 35 #[.val (.int p1), .val (.int (3 : Int32)), .unset, .unset, .unset, .unset, .unset] [])
    refine own_by (fun t_ k_ => XS.iloadN X0.here hx rfl (hb hby at_35) rfl k_) ?_
    show own_Go p e below _ s₁ (mkF m 36 #[.val (.int p1), .val (.int (3 : Int32)), .unset, .unset, .unset, .unset, .unset] [(.int (3 : Int32))])
    refine own_by (fun t_ k_ => XS.iconst X0.here hx rfl (hb hby at_36) k_) ?_
    show own_Go p e below _ s₁ (mkF m 37 #[.val (.int p1), .val (.int (3 : Int32)), .unset, .unset, .unset, .unset, .unset] [(.int (2 : Int32)), (.int (3 : Int32))])
    refine own_icmp X0 hx 49 (hb hby at_37) (by decide) (by decide) (fun _ => ?_) (fun hc => absurd (show ¬ (3 : Int32) = (2 : Int32) from by decide) (by first | exact hc | exact not_not_intro hc))
    show own_Go p e below _ s₁ (mkF m 49 #[.val (.int p1), .val (.int (3 : Int32)), .unset, .unset, .unset, .unset, .unset] [])
    refine own_by (fun t_ k_ => XS.iloadN X0.here hx rfl (hb hby at_49) rfl k_) ?_
    show own_Go p e below _ s₁ (mkF m 50 #[.val (.int p1), .val (.int (3 : Int32)), .unset, .unset, .unset, .unset, .unset] [(.int (3 : Int32))])
    refine own_by (fun t_ k_ => XS.iconst X0.here hx rfl (hb hby at_50) k_) ?_
    show own_Go p e below _ s₁ (mkF m 51 #[.val (.int p1), .val (.int (3 : Int32)), .unset, .unset, .unset, .unset, .unset] [(.int (3 : Int32)), (.int (3 : Int32))])
    refine own_icmp X0 hx 63 (hb hby at_51) (by decide) (by decide) (fun hc => absurd (show (3 : Int32) = (3 : Int32) from by decide) (by first | exact hc | exact not_not_intro hc)) (fun _ => ?_)
    show own_Go p e below _ s₁ (mkF m 54 #[.val (.int p1), .val (.int (3 : Int32)), .unset, .unset, .unset, .unset, .unset] [])
    refine own_getS X0 hx hZ hown (hw _ (List.mem_of_getElem? (i := 39) rfl)) Via.refl e0 S_LESS_EQUALS (hb hby at_54) ?_
    intro T45 X45 e45
    show own_Go p e below _ T45 (mkF m 57 #[.val (.int p1), .val (.int (3 : Int32)), .unset, .unset, .unset, .unset, .unset] [(.ref a_LESS_EQUALS)])
    refine own_by (fun t_ k_ => XS.astoreN X45.here hx rfl (hb hby at_57) rfl rfl (l' := #[.val (.int p1), .val (.int (3 : Int32)), .val (.ref a_LESS_EQUALS), .unset, .unset, .unset, .unset]) rfl k_) ?_
    show own_Go p e below _ T45 (mkF m 58 #[.val (.int p1), .val (.int (3 : Int32)), .val (.ref a_LESS_EQUALS), .unset, .unset, .unset, .unset] [])
    refine own_by (fun t_ k_ => XS.iconst X45.here hx rfl (hb hby at_58) k_) ?_
    show own_Go p e below _ T45 (mkF m 59 #[.val (.int p1), .val (.int (3 : Int32)), .val (.ref a_LESS_EQUALS), .unset, .unset, .unset, .unset] [(.int (0 : Int32))])
    refine own_by (fun t_ k_ => XS.istoreN X45.here hx rfl (hb hby at_59) rfl (l' := #[.val (.int p1), .val (.int (3 : Int32)), .val (.ref a_LESS_EQUALS), .val (.int (0 : Int32)), .unset, .unset, .unset]) rfl k_) ?_
    show own_Go p e below _ T45 (mkF m 60 #[.val (.int p1), .val (.int (3 : Int32)), .val (.ref a_LESS_EQUALS), .val (.int (0 : Int32)), .unset, .unset, .unset] [])
    refine own_by (fun t_ k_ => XS.goto X45.here hx rfl (pc0 := 60) (pc' := 83) rfl (hb hby at_60) (by decide) (by decide) k_) ?_
    show own_Go p e below _ T45 (mkF m 83 #[.val (.int p1), .val (.int (3 : Int32)), .val (.ref a_LESS_EQUALS), .val (.int (0 : Int32)), .unset, .unset, .unset] [])
    refine own_by (fun t_ k_ => XS.aloadN X45.here hx rfl (hb hby at_83) rfl rfl k_) ?_
    show own_Go p e below _ T45 (mkF m 84 #[.val (.int p1), .val (.int (3 : Int32)), .val (.ref a_LESS_EQUALS), .val (.int (0 : Int32)), .unset, .unset, .unset] [(.ref a_LESS_EQUALS)])
    refine own_callV (W := 0) X45 hx hZ (y := (⟨"com/example/kediri/kediri/jpql/Expression$Operator", "isEquality", "()Z"⟩ : MethodName)) (z := (⟨"com/example/kediri/kediri/jpql/Expression$Operator", "isEquality", "()Z"⟩ : MethodName)) hown (hw _ (List.mem_of_getElem? (i := 4) rfl)) (hw _ (List.mem_of_getElem? (i := 5) rfl)) (notFace_of_selects (args := #[]) (mvT hZ (hw _ (List.mem_of_getElem? (i := 7) rfl)))) (hw _ (List.mem_of_getElem? (i := 7) rfl)) (hw _ (List.mem_of_getElem? (i := 6) rfl)) (hw _ (List.mem_of_getElem? (i := 2) rfl)) (hw _ (List.mem_of_getElem? (i := 8) rfl)) (by decide) (by rw [hml]; rfl) (argsL := []) pd_0 rfl (a := a_LESS_EQUALS) e45 E_LESS_EQUALS (rm1 l Z a0 hw [] a_LESS_EQUALS a_EQUALS a_NOT_EQUALS h0 n0 Z0 S_EQUALS S_NOT_EQUALS) (by decide) (by decide) (Nat.le_of_eq rfl) (by decide) (by decide) (rest := []) rfl (hb hby at_84) ?_
    intro v46 T46 L46 X46 hQ46
    obtain ⟨rfl, N46q, e46⟩ := hQ46
    have N46 := Fr.app N0 N46q
    show own_Go p e below _ T46 (mkF m 87 #[.val (.int p1), .val (.int (3 : Int32)), .val (.ref a_LESS_EQUALS), .val (.int (0 : Int32)), .unset, .unset, .unset] [(.int (own_ie a_LESS_EQUALS a_EQUALS a_NOT_EQUALS))])
    refine own_by (fun t_ k_ => XS.istore X46.here hx rfl (hb hby at_87) rfl (l' := #[.val (.int p1), .val (.int (3 : Int32)), .val (.ref a_LESS_EQUALS), .val (.int (0 : Int32)), .val (.int (own_ie a_LESS_EQUALS a_EQUALS a_NOT_EQUALS)), .unset, .unset]) rfl k_) ?_
    show own_Go p e below _ T46 (mkF m 89 #[.val (.int p1), .val (.int (3 : Int32)), .val (.ref a_LESS_EQUALS), .val (.int (0 : Int32)), .val (.int (own_ie a_LESS_EQUALS a_EQUALS a_NOT_EQUALS)), .unset, .unset] [])
    refine own_by (fun t_ k_ => XS.aloadN X46.here hx rfl (hb hby at_89) rfl rfl k_) ?_
    show own_Go p e below _ T46 (mkF m 90 #[.val (.int p1), .val (.int (3 : Int32)), .val (.ref a_LESS_EQUALS), .val (.int (0 : Int32)), .val (.int (own_ie a_LESS_EQUALS a_EQUALS a_NOT_EQUALS)), .unset, .unset] [(.ref a_LESS_EQUALS)])
    refine own_callV (W := 0) X46 hx hZ (y := (⟨"com/example/kediri/kediri/jpql/Expression$Operator", "symbol", "()Ljava/lang/String;"⟩ : MethodName)) (z := (⟨"com/example/kediri/kediri/jpql/Expression$Operator", "symbol", "()Ljava/lang/String;"⟩ : MethodName)) hown (hw _ (List.mem_of_getElem? (i := 10) rfl)) (hw _ (List.mem_of_getElem? (i := 11) rfl)) (notFace_of_selects (args := #[]) (mvT hZ (hw _ (List.mem_of_getElem? (i := 13) rfl)))) (hw _ (List.mem_of_getElem? (i := 13) rfl)) (hw _ (List.mem_of_getElem? (i := 12) rfl)) (hw _ (List.mem_of_getElem? (i := 2) rfl)) (hw _ (List.mem_of_getElem? (i := 14) rfl)) (by decide) (by rw [hml]; rfl) (argsL := []) pd_1 rfl (a := a_LESS_EQUALS) e46 E_LESS_EQUALS (rm2 l Z a0 hw [] a_LESS_EQUALS s_LESS_EQUALS h0 n0 Z0 Y_LESS_EQUALS) (by decide) (by decide) (Nat.le_of_eq rfl) (by decide) (by decide) (rest := []) rfl (hb hby at_90) ?_
    intro v47 T47 L47 X47 hQ47
    obtain ⟨rfl, N47q, e47⟩ := hQ47
    have N47 := Fr.app N46 N47q
    show own_Go p e below _ T47 (mkF m 93 #[.val (.int p1), .val (.int (3 : Int32)), .val (.ref a_LESS_EQUALS), .val (.int (0 : Int32)), .val (.int (own_ie a_LESS_EQUALS a_EQUALS a_NOT_EQUALS)), .unset, .unset] [(.ref s_LESS_EQUALS)])
    refine own_by (fun t_ k_ => XS.astore X47.here hx rfl (hb hby at_93) rfl rfl (l' := #[.val (.int p1), .val (.int (3 : Int32)), .val (.ref a_LESS_EQUALS), .val (.int (0 : Int32)), .val (.int (own_ie a_LESS_EQUALS a_EQUALS a_NOT_EQUALS)), .val (.ref s_LESS_EQUALS), .unset]) rfl k_) ?_
    show own_Go p e below _ T47 (mkF m 95 #[.val (.int p1), .val (.int (3 : Int32)), .val (.ref a_LESS_EQUALS), .val (.int (0 : Int32)), .val (.int (own_ie a_LESS_EQUALS a_EQUALS a_NOT_EQUALS)), .val (.ref s_LESS_EQUALS), .unset] [])
    refine own_by (fun t_ k_ => XS.aload X47.here hx rfl (hb hby at_95) rfl rfl k_) ?_
    show own_Go p e below _ T47 (mkF m 97 #[.val (.int p1), .val (.int (3 : Int32)), .val (.ref a_LESS_EQUALS), .val (.int (0 : Int32)), .val (.int (own_ie a_LESS_EQUALS a_EQUALS a_NOT_EQUALS)), .val (.ref s_LESS_EQUALS), .unset] [(.ref s_LESS_EQUALS)])
    refine own_ldcC X47 hx hZ hown (hw _ (List.mem_of_getElem? (i := 17) rfl)) hwS e47 hS0 hk0 hEL (by decide) hCH [(61 : Int32)] (1 : Int32) (by decide) (by decide) (by decide) (hb hby at_97) 64 (by decide) (by decide) (by decide) (by decide) ?_
    intro b48 T48 h48 k48 d48 X48 e48 E48 hS48 hk48 hZ hown Es48 C48 W48 V48 H48
    have sz48 : n0 ≤ h48.size := Nat.le_trans Z0 E48.1
    show own_Go p e below _ T48 (mkF m 99 #[.val (.int p1), .val (.int (3 : Int32)), .val (.ref a_LESS_EQUALS), .val (.int (0 : Int32)), .val (.int (own_ie a_LESS_EQUALS a_EQUALS a_NOT_EQUALS)), .val (.ref s_LESS_EQUALS), .unset] [(.ref b48), (.ref s_LESS_EQUALS)])
    have Es_LESS_EQUALS_49 : Exa Z h48 s_LESS_EQUALS "java/lang/String" := (Exa.ext E48 Es_LESS_EQUALS)
    have C_LESS_EQUALS_50 : Fld Z h48 s_LESS_EQUALS "java/lang/String" "coder" "B" (.int (0 : Int32)) := (Fld.ext E48 C_LESS_EQUALS)
    have W_LESS_EQUALS_51 : Fld Z h48 s_LESS_EQUALS "java/lang/String" "value" "[B" (.ref b_LESS_EQUALS) := (Fld.ext E48 W_LESS_EQUALS)
    have V_LESS_EQUALS_52 : own_Arr Z h48 b_LESS_EQUALS .byte ([(60 : Int32), (61 : Int32)].map Value.int) := (own_Arr.ext V_LESS_EQUALS E48)
    have S_cs_53 : Sta Z h48 "java/lang/String" "COMPACT_STRINGS" "Z" (.int cs) := (Sta.ext E48 S_cs)
    refine own_callV (W := 0) X48 hx hZ (y := (⟨"java/lang/String", "equals", "(Ljava/lang/Object;)Z"⟩ : MethodName)) (z := (⟨"java/lang/String", "equals", "(Ljava/lang/Object;)Z"⟩ : MethodName)) hown (hw _ (List.mem_of_getElem? (i := 25) rfl)) (hw _ (List.mem_of_getElem? (i := 26) rfl)) (notFace_of_selects (args := #[]) (mvT hZ (hw _ (List.mem_of_getElem? (i := 28) rfl)))) (hw _ (List.mem_of_getElem? (i := 28) rfl)) (hw _ (List.mem_of_getElem? (i := 27) rfl)) (hw _ (List.mem_of_getElem? (i := 18) rfl)) (hw _ (List.mem_of_getElem? (i := 29) rfl)) (by decide) (by rw [hml]; rfl) (argsL := [(.ref b48)]) pd_2 rfl (a := s_LESS_EQUALS) e48 Es_LESS_EQUALS_49 (rm3 l Z a0 hw [] s_LESS_EQUALS b48 b_LESS_EQUALS d48 [(60 : Int32), (61 : Int32)] [(61 : Int32)] cs h48 n0 sz48 Es_LESS_EQUALS_49 C_LESS_EQUALS_50 W_LESS_EQUALS_51 V_LESS_EQUALS_52 Es48 C48 W48 V48 S_cs_53 hcs) (by decide) (by decide) (Nat.le_of_eq rfl) (by decide) (by decide) (rest := []) rfl (hb hby at_99) ?_
    intro v54 T54 L54 X54 hQ54
    obtain ⟨hv54, N54q, e54⟩ := hQ54
    rw [show own_eqv [(60 : Int32), (61 : Int32)] [(61 : Int32)] = (0 : Int32) from by decide] at hv54
    subst hv54
    have N54 := Fr.app N47 N54q
    show own_Go p e below _ T54 (mkF m 102 #[.val (.int p1), .val (.int (3 : Int32)), .val (.ref a_LESS_EQUALS), .val (.int (0 : Int32)), .val (.int (own_ie a_LESS_EQUALS a_EQUALS a_NOT_EQUALS)), .val (.ref s_LESS_EQUALS), .unset] [(.int (0 : Int32))])
    refine own_if X54 hx 115 (hb hby at_102) (by decide) (by decide) (fun hc => absurd (show (0 : Int32) = (0 : Int32) from by decide) (by first | exact hc | exact not_not_intro hc)) (fun _ => ?_)
    show own_Go p e below _ T54 (mkF m 105 #[.val (.int p1), .val (.int (3 : Int32)), .val (.ref a_LESS_EQUALS), .val (.int (0 : Int32)), .val (.int (own_ie a_LESS_EQUALS a_EQUALS a_NOT_EQUALS)), .val (.ref s_LESS_EQUALS), .unset] [])
    refine own_by (fun t_ k_ => XS.aload X54.here hx rfl (hb hby at_105) rfl rfl k_) ?_
    show own_Go p e below _ T54 (mkF m 107 #[.val (.int p1), .val (.int (3 : Int32)), .val (.ref a_LESS_EQUALS), .val (.int (0 : Int32)), .val (.int (own_ie a_LESS_EQUALS a_EQUALS a_NOT_EQUALS)), .val (.ref s_LESS_EQUALS), .unset] [(.ref s_LESS_EQUALS)])
    refine own_ldcC X54 hx hZ hown (hw _ (List.mem_of_getElem? (i := 43) rfl)) hwS e54 hS48 hk48 hEL (by decide) H48.1 [(60 : Int32), (62 : Int32)] (2 : Int32) (by decide) (by decide) (by decide) (hb hby at_107) 64 (by decide) (by decide) (by decide) (by decide) ?_
    intro b55 T55 h55 k55 d55 X55 e55 E55 hS55 hk55 hZ hown Es55 C55 W55 V55 H55
    have sz55 : n0 ≤ h55.size := Nat.le_trans sz48 E55.1
    show own_Go p e below _ T55 (mkF m 109 #[.val (.int p1), .val (.int (3 : Int32)), .val (.ref a_LESS_EQUALS), .val (.int (0 : Int32)), .val (.int (own_ie a_LESS_EQUALS a_EQUALS a_NOT_EQUALS)), .val (.ref s_LESS_EQUALS), .unset] [(.ref b55), (.ref s_LESS_EQUALS)])
    have Es_LESS_EQUALS_56 : Exa Z h55 s_LESS_EQUALS "java/lang/String" := (Exa.ext E55 Es_LESS_EQUALS_49)
    have C_LESS_EQUALS_57 : Fld Z h55 s_LESS_EQUALS "java/lang/String" "coder" "B" (.int (0 : Int32)) := (Fld.ext E55 C_LESS_EQUALS_50)
    have W_LESS_EQUALS_58 : Fld Z h55 s_LESS_EQUALS "java/lang/String" "value" "[B" (.ref b_LESS_EQUALS) := (Fld.ext E55 W_LESS_EQUALS_51)
    have V_LESS_EQUALS_59 : own_Arr Z h55 b_LESS_EQUALS .byte ([(60 : Int32), (61 : Int32)].map Value.int) := (own_Arr.ext V_LESS_EQUALS_52 E55)
    have S_cs_60 : Sta Z h55 "java/lang/String" "COMPACT_STRINGS" "Z" (.int cs) := (Sta.ext E55 S_cs_53)
    refine own_callV (W := 0) X55 hx hZ (y := (⟨"java/lang/String", "equals", "(Ljava/lang/Object;)Z"⟩ : MethodName)) (z := (⟨"java/lang/String", "equals", "(Ljava/lang/Object;)Z"⟩ : MethodName)) hown (hw _ (List.mem_of_getElem? (i := 25) rfl)) (hw _ (List.mem_of_getElem? (i := 26) rfl)) (notFace_of_selects (args := #[]) (mvT hZ (hw _ (List.mem_of_getElem? (i := 28) rfl)))) (hw _ (List.mem_of_getElem? (i := 28) rfl)) (hw _ (List.mem_of_getElem? (i := 27) rfl)) (hw _ (List.mem_of_getElem? (i := 18) rfl)) (hw _ (List.mem_of_getElem? (i := 29) rfl)) (by decide) (by rw [hml]; rfl) (argsL := [(.ref b55)]) pd_2 rfl (a := s_LESS_EQUALS) e55 Es_LESS_EQUALS_56 (rm3 l Z a0 hw [] s_LESS_EQUALS b55 b_LESS_EQUALS d55 [(60 : Int32), (61 : Int32)] [(60 : Int32), (62 : Int32)] cs h55 n0 sz55 Es_LESS_EQUALS_56 C_LESS_EQUALS_57 W_LESS_EQUALS_58 V_LESS_EQUALS_59 Es55 C55 W55 V55 S_cs_60 hcs) (by decide) (by decide) (Nat.le_of_eq rfl) (by decide) (by decide) (rest := []) rfl (hb hby at_109) ?_
    intro v61 T61 L61 X61 hQ61
    obtain ⟨hv61, N61q, e61⟩ := hQ61
    rw [show own_eqv [(60 : Int32), (61 : Int32)] [(60 : Int32), (62 : Int32)] = (0 : Int32) from by decide] at hv61
    subst hv61
    have N61 := Fr.app N54 N61q
    show own_Go p e below _ T61 (mkF m 112 #[.val (.int p1), .val (.int (3 : Int32)), .val (.ref a_LESS_EQUALS), .val (.int (0 : Int32)), .val (.int (own_ie a_LESS_EQUALS a_EQUALS a_NOT_EQUALS)), .val (.ref s_LESS_EQUALS), .unset] [(.int (0 : Int32))])
    refine own_if X61 hx 119 (hb hby at_112) (by decide) (by decide) (fun _ => ?_) (fun hc => absurd (show (0 : Int32) = (0 : Int32) from by decide) (by first | exact hc | exact not_not_intro hc))
    show own_Go p e below _ T61 (mkF m 119 #[.val (.int p1), .val (.int (3 : Int32)), .val (.ref a_LESS_EQUALS), .val (.int (0 : Int32)), .val (.int (own_ie a_LESS_EQUALS a_EQUALS a_NOT_EQUALS)), .val (.ref s_LESS_EQUALS), .unset] [])
    refine own_by (fun t_ k_ => XS.iconst X61.here hx rfl (hb hby at_119) k_) ?_
    show own_Go p e below _ T61 (mkF m 120 #[.val (.int p1), .val (.int (3 : Int32)), .val (.ref a_LESS_EQUALS), .val (.int (0 : Int32)), .val (.int (own_ie a_LESS_EQUALS a_EQUALS a_NOT_EQUALS)), .val (.ref s_LESS_EQUALS), .unset] [(.int (0 : Int32))])
    refine own_by (fun t_ k_ => XS.istore X61.here hx rfl (hb hby at_120) rfl (l' := #[.val (.int p1), .val (.int (3 : Int32)), .val (.ref a_LESS_EQUALS), .val (.int (0 : Int32)), .val (.int (own_ie a_LESS_EQUALS a_EQUALS a_NOT_EQUALS)), .val (.ref s_LESS_EQUALS), .val (.int (0 : Int32))]) rfl k_) ?_
    show own_Go p e below _ T61 (mkF m 122 #[.val (.int p1), .val (.int (3 : Int32)), .val (.ref a_LESS_EQUALS), .val (.int (0 : Int32)), .val (.int (own_ie a_LESS_EQUALS a_EQUALS a_NOT_EQUALS)), .val (.ref s_LESS_EQUALS), .val (.int (0 : Int32))] [])
    refine own_by (fun t_ k_ => XS.iload X61.here hx rfl (hb hby at_122) rfl k_) ?_
    show own_Go p e below _ T61 (mkF m 124 #[.val (.int p1), .val (.int (3 : Int32)), .val (.ref a_LESS_EQUALS), .val (.int (0 : Int32)), .val (.int (own_ie a_LESS_EQUALS a_EQUALS a_NOT_EQUALS)), .val (.ref s_LESS_EQUALS), .val (.int (0 : Int32))] [(.int (own_ie a_LESS_EQUALS a_EQUALS a_NOT_EQUALS))])
    refine own_by (fun t_ k_ => XS.iloadN X61.here hx rfl (hb hby at_124) rfl k_) ?_
    show own_Go p e below _ T61 (mkF m 125 #[.val (.int p1), .val (.int (3 : Int32)), .val (.ref a_LESS_EQUALS), .val (.int (0 : Int32)), .val (.int (own_ie a_LESS_EQUALS a_EQUALS a_NOT_EQUALS)), .val (.ref s_LESS_EQUALS), .val (.int (0 : Int32))] [(.int (0 : Int32)), (.int (own_ie a_LESS_EQUALS a_EQUALS a_NOT_EQUALS))])
    refine own_icmp X61 hx 139 (hb hby at_125) (by decide) (by decide) (fun hc => absurd (show (own_ie a_LESS_EQUALS a_EQUALS a_NOT_EQUALS) = (0 : Int32) from by simp [own_ie, Fld.ne O_LESS_EQUALS O_EQUALS (by decide), Fld.ne O_LESS_EQUALS O_NOT_EQUALS (by decide)]) (by first | exact hc | exact not_not_intro hc)) (fun _ => ?_)
    show own_Go p e below _ T61 (mkF m 128 #[.val (.int p1), .val (.int (3 : Int32)), .val (.ref a_LESS_EQUALS), .val (.int (0 : Int32)), .val (.int (own_ie a_LESS_EQUALS a_EQUALS a_NOT_EQUALS)), .val (.ref s_LESS_EQUALS), .val (.int (0 : Int32))] [])
    refine own_by (fun t_ k_ => XS.iload X61.here hx rfl (hb hby at_128) rfl k_) ?_
    show own_Go p e below _ T61 (mkF m 130 #[.val (.int p1), .val (.int (3 : Int32)), .val (.ref a_LESS_EQUALS), .val (.int (0 : Int32)), .val (.int (own_ie a_LESS_EQUALS a_EQUALS a_NOT_EQUALS)), .val (.ref s_LESS_EQUALS), .val (.int (0 : Int32))] [(.int (own_ie a_LESS_EQUALS a_EQUALS a_NOT_EQUALS))])
    refine own_by (fun t_ k_ => XS.iload X61.here hx rfl (hb hby at_130) rfl k_) ?_
    show own_Go p e below _ T61 (mkF m 132 #[.val (.int p1), .val (.int (3 : Int32)), .val (.ref a_LESS_EQUALS), .val (.int (0 : Int32)), .val (.int (own_ie a_LESS_EQUALS a_EQUALS a_NOT_EQUALS)), .val (.ref s_LESS_EQUALS), .val (.int (0 : Int32))] [(.int (0 : Int32)), (.int (own_ie a_LESS_EQUALS a_EQUALS a_NOT_EQUALS))])
    refine own_icmp X61 hx 139 (hb hby at_132) (by decide) (by decide) (fun hc => absurd (show (own_ie a_LESS_EQUALS a_EQUALS a_NOT_EQUALS) = (0 : Int32) from by simp [own_ie, Fld.ne O_LESS_EQUALS O_EQUALS (by decide), Fld.ne O_LESS_EQUALS O_NOT_EQUALS (by decide)]) (by first | exact hc | exact not_not_intro hc)) (fun _ => ?_)
    show own_Go p e below _ T61 (mkF m 135 #[.val (.int p1), .val (.int (3 : Int32)), .val (.ref a_LESS_EQUALS), .val (.int (0 : Int32)), .val (.int (own_ie a_LESS_EQUALS a_EQUALS a_NOT_EQUALS)), .val (.ref s_LESS_EQUALS), .val (.int (0 : Int32))] [])
    refine own_by (fun t_ k_ => XS.iconst X61.here hx rfl (hb hby at_135) k_) ?_
    show own_Go p e below _ T61 (mkF m 136 #[.val (.int p1), .val (.int (3 : Int32)), .val (.ref a_LESS_EQUALS), .val (.int (0 : Int32)), .val (.int (own_ie a_LESS_EQUALS a_EQUALS a_NOT_EQUALS)), .val (.ref s_LESS_EQUALS), .val (.int (0 : Int32))] [(.int (1 : Int32))])
    refine own_by (fun t_ k_ => XS.goto X61.here hx rfl (pc0 := 136) (pc' := 140) rfl (hb hby at_136) (by decide) (by decide) k_) ?_
    show own_Go p e below _ T61 (mkF m 140 #[.val (.int p1), .val (.int (3 : Int32)), .val (.ref a_LESS_EQUALS), .val (.int (0 : Int32)), .val (.int (own_ie a_LESS_EQUALS a_EQUALS a_NOT_EQUALS)), .val (.ref s_LESS_EQUALS), .val (.int (0 : Int32))] [(.int (1 : Int32))])
    refine own_retZw X61 hx hS55 hk55 hlk Bd.returns (by decide) (hb hby at_140) e61 (by decide) (by decide) ?_
    exact ⟨rfl, N61⟩
  · show own_Go p e below _ s₁ (mkF m 8 #[.val (.int p1), .val (.int (4 : Int32)), .unset, .unset, .unset, .unset, .unset] [])
    refine own_by (fun t_ k_ => XS.iloadN X0.here hx rfl (hb hby at_8) rfl k_) ?_
    show own_Go p e below _ s₁ (mkF m 9 #[.val (.int p1), .val (.int (4 : Int32)), .unset, .unset, .unset, .unset, .unset] [(.int (4 : Int32))])
    refine own_if X0 hx 21 (hb hby at_9) (by decide) (by decide) (fun _ => ?_) (fun hc => absurd (show ¬ (4 : Int32) = (0 : Int32) from by decide) (by first | exact hc | exact not_not_intro hc))
    show own_Go p e below _ s₁ (mkF m 21 #[.val (.int p1), .val (.int (4 : Int32)), .unset, .unset, .unset, .unset, .unset] [])
    refine own_by (fun t_ k_ => XS.iloadN X0.here hx rfl (hb hby at_21) rfl k_) ?_
    show own_Go p e below _ s₁ (mkF m 22 #[.val (.int p1), .val (.int (4 : Int32)), .unset, .unset, .unset, .unset, .unset] [(.int (4 : Int32))])
    refine own_by (fun t_ k_ => XS.iconst X0.here hx rfl (hb hby at_22) k_) ?_
    show own_Go p e below _ s₁ (mkF m 23 #[.val (.int p1), .val (.int (4 : Int32)), .unset, .unset, .unset, .unset, .unset] [(.int (1 : Int32)), (.int (4 : Int32))])
    refine own_icmp X0 hx 35 (hb hby at_23) (by decide) (by decide) (fun _ => ?_) (fun hc => absurd (show ¬ (4 : Int32) = (1 : Int32) from by decide) (by first | exact hc | exact not_not_intro hc))
    show own_Go p e below _ s₁ (mkF m 35 #[.val (.int p1), .val (.int (4 : Int32)), .unset, .unset, .unset, .unset, .unset] [])
    refine own_by (fun t_ k_ => XS.iloadN X0.here hx rfl (hb hby at_35) rfl k_) ?_
    show own_Go p e below _ s₁ (mkF m 36 #[.val (.int p1), .val (.int (4 : Int32)), .unset, .unset, .unset, .unset, .unset] [(.int (4 : Int32))])
    refine own_by (fun t_ k_ => XS.iconst X0.here hx rfl (hb hby at_36) k_) ?_
    show own_Go p e below _ s₁ (mkF m 37 #[.val (.int p1), .val (.int (4 : Int32)), .unset, .unset, .unset, .unset, .unset] [(.int (2 : Int32)), (.int (4 : Int32))])
    refine own_icmp X0 hx 49 (hb hby at_37) (by decide) (by decide) (fun _ => ?_) (fun hc => absurd (show ¬ (4 : Int32) = (2 : Int32) from by decide) (by first | exact hc | exact not_not_intro hc))
    show own_Go p e below _ s₁ (mkF m 49 #[.val (.int p1), .val (.int (4 : Int32)), .unset, .unset, .unset, .unset, .unset] [])
    refine own_by (fun t_ k_ => XS.iloadN X0.here hx rfl (hb hby at_49) rfl k_) ?_
    show own_Go p e below _ s₁ (mkF m 50 #[.val (.int p1), .val (.int (4 : Int32)), .unset, .unset, .unset, .unset, .unset] [(.int (4 : Int32))])
    refine own_by (fun t_ k_ => XS.iconst X0.here hx rfl (hb hby at_50) k_) ?_
    show own_Go p e below _ s₁ (mkF m 51 #[.val (.int p1), .val (.int (4 : Int32)), .unset, .unset, .unset, .unset, .unset] [(.int (3 : Int32)), (.int (4 : Int32))])
    refine own_icmp X0 hx 63 (hb hby at_51) (by decide) (by decide) (fun _ => ?_) (fun hc => absurd (show ¬ (4 : Int32) = (3 : Int32) from by decide) (by first | exact hc | exact not_not_intro hc))
    show own_Go p e below _ s₁ (mkF m 63 #[.val (.int p1), .val (.int (4 : Int32)), .unset, .unset, .unset, .unset, .unset] [])
    refine own_by (fun t_ k_ => XS.iloadN X0.here hx rfl (hb hby at_63) rfl k_) ?_
    show own_Go p e below _ s₁ (mkF m 64 #[.val (.int p1), .val (.int (4 : Int32)), .unset, .unset, .unset, .unset, .unset] [(.int (4 : Int32))])
    refine own_by (fun t_ k_ => XS.iconst X0.here hx rfl (hb hby at_64) k_) ?_
    show own_Go p e below _ s₁ (mkF m 65 #[.val (.int p1), .val (.int (4 : Int32)), .unset, .unset, .unset, .unset, .unset] [(.int (4 : Int32)), (.int (4 : Int32))])
    refine own_icmp X0 hx 77 (hb hby at_65) (by decide) (by decide) (fun hc => absurd (show (4 : Int32) = (4 : Int32) from by decide) (by first | exact hc | exact not_not_intro hc)) (fun _ => ?_)
    show own_Go p e below _ s₁ (mkF m 68 #[.val (.int p1), .val (.int (4 : Int32)), .unset, .unset, .unset, .unset, .unset] [])
    refine own_getS X0 hx hZ hown (hw _ (List.mem_of_getElem? (i := 49) rfl)) Via.refl e0 S_GREATER (hb hby at_68) ?_
    intro T62 X62 e62
    show own_Go p e below _ T62 (mkF m 71 #[.val (.int p1), .val (.int (4 : Int32)), .unset, .unset, .unset, .unset, .unset] [(.ref a_GREATER)])
    refine own_by (fun t_ k_ => XS.astoreN X62.here hx rfl (hb hby at_71) rfl rfl (l' := #[.val (.int p1), .val (.int (4 : Int32)), .val (.ref a_GREATER), .unset, .unset, .unset, .unset]) rfl k_) ?_
    show own_Go p e below _ T62 (mkF m 72 #[.val (.int p1), .val (.int (4 : Int32)), .val (.ref a_GREATER), .unset, .unset, .unset, .unset] [])
    refine own_by (fun t_ k_ => XS.iconst X62.here hx rfl (hb hby at_72) k_) ?_
    show own_Go p e below _ T62 (mkF m 73 #[.val (.int p1), .val (.int (4 : Int32)), .val (.ref a_GREATER), .unset, .unset, .unset, .unset] [(.int (0 : Int32))])
    refine own_by (fun t_ k_ => XS.istoreN X62.here hx rfl (hb hby at_73) rfl (l' := #[.val (.int p1), .val (.int (4 : Int32)), .val (.ref a_GREATER), .val (.int (0 : Int32)), .unset, .unset, .unset]) rfl k_) ?_
    show own_Go p e below _ T62 (mkF m 74 #[.val (.int p1), .val (.int (4 : Int32)), .val (.ref a_GREATER), .val (.int (0 : Int32)), .unset, .unset, .unset] [])
    refine own_by (fun t_ k_ => XS.goto X62.here hx rfl (pc0 := 74) (pc' := 83) rfl (hb hby at_74) (by decide) (by decide) k_) ?_
    show own_Go p e below _ T62 (mkF m 83 #[.val (.int p1), .val (.int (4 : Int32)), .val (.ref a_GREATER), .val (.int (0 : Int32)), .unset, .unset, .unset] [])
    refine own_by (fun t_ k_ => XS.aloadN X62.here hx rfl (hb hby at_83) rfl rfl k_) ?_
    show own_Go p e below _ T62 (mkF m 84 #[.val (.int p1), .val (.int (4 : Int32)), .val (.ref a_GREATER), .val (.int (0 : Int32)), .unset, .unset, .unset] [(.ref a_GREATER)])
    refine own_callV (W := 0) X62 hx hZ (y := (⟨"com/example/kediri/kediri/jpql/Expression$Operator", "isEquality", "()Z"⟩ : MethodName)) (z := (⟨"com/example/kediri/kediri/jpql/Expression$Operator", "isEquality", "()Z"⟩ : MethodName)) hown (hw _ (List.mem_of_getElem? (i := 4) rfl)) (hw _ (List.mem_of_getElem? (i := 5) rfl)) (notFace_of_selects (args := #[]) (mvT hZ (hw _ (List.mem_of_getElem? (i := 7) rfl)))) (hw _ (List.mem_of_getElem? (i := 7) rfl)) (hw _ (List.mem_of_getElem? (i := 6) rfl)) (hw _ (List.mem_of_getElem? (i := 2) rfl)) (hw _ (List.mem_of_getElem? (i := 8) rfl)) (by decide) (by rw [hml]; rfl) (argsL := []) pd_0 rfl (a := a_GREATER) e62 E_GREATER (rm1 l Z a0 hw [] a_GREATER a_EQUALS a_NOT_EQUALS h0 n0 Z0 S_EQUALS S_NOT_EQUALS) (by decide) (by decide) (Nat.le_of_eq rfl) (by decide) (by decide) (rest := []) rfl (hb hby at_84) ?_
    intro v63 T63 L63 X63 hQ63
    obtain ⟨rfl, N63q, e63⟩ := hQ63
    have N63 := Fr.app N0 N63q
    show own_Go p e below _ T63 (mkF m 87 #[.val (.int p1), .val (.int (4 : Int32)), .val (.ref a_GREATER), .val (.int (0 : Int32)), .unset, .unset, .unset] [(.int (own_ie a_GREATER a_EQUALS a_NOT_EQUALS))])
    refine own_by (fun t_ k_ => XS.istore X63.here hx rfl (hb hby at_87) rfl (l' := #[.val (.int p1), .val (.int (4 : Int32)), .val (.ref a_GREATER), .val (.int (0 : Int32)), .val (.int (own_ie a_GREATER a_EQUALS a_NOT_EQUALS)), .unset, .unset]) rfl k_) ?_
    show own_Go p e below _ T63 (mkF m 89 #[.val (.int p1), .val (.int (4 : Int32)), .val (.ref a_GREATER), .val (.int (0 : Int32)), .val (.int (own_ie a_GREATER a_EQUALS a_NOT_EQUALS)), .unset, .unset] [])
    refine own_by (fun t_ k_ => XS.aloadN X63.here hx rfl (hb hby at_89) rfl rfl k_) ?_
    show own_Go p e below _ T63 (mkF m 90 #[.val (.int p1), .val (.int (4 : Int32)), .val (.ref a_GREATER), .val (.int (0 : Int32)), .val (.int (own_ie a_GREATER a_EQUALS a_NOT_EQUALS)), .unset, .unset] [(.ref a_GREATER)])
    refine own_callV (W := 0) X63 hx hZ (y := (⟨"com/example/kediri/kediri/jpql/Expression$Operator", "symbol", "()Ljava/lang/String;"⟩ : MethodName)) (z := (⟨"com/example/kediri/kediri/jpql/Expression$Operator", "symbol", "()Ljava/lang/String;"⟩ : MethodName)) hown (hw _ (List.mem_of_getElem? (i := 10) rfl)) (hw _ (List.mem_of_getElem? (i := 11) rfl)) (notFace_of_selects (args := #[]) (mvT hZ (hw _ (List.mem_of_getElem? (i := 13) rfl)))) (hw _ (List.mem_of_getElem? (i := 13) rfl)) (hw _ (List.mem_of_getElem? (i := 12) rfl)) (hw _ (List.mem_of_getElem? (i := 2) rfl)) (hw _ (List.mem_of_getElem? (i := 14) rfl)) (by decide) (by rw [hml]; rfl) (argsL := []) pd_1 rfl (a := a_GREATER) e63 E_GREATER (rm2 l Z a0 hw [] a_GREATER s_GREATER h0 n0 Z0 Y_GREATER) (by decide) (by decide) (Nat.le_of_eq rfl) (by decide) (by decide) (rest := []) rfl (hb hby at_90) ?_
    intro v64 T64 L64 X64 hQ64
    obtain ⟨rfl, N64q, e64⟩ := hQ64
    have N64 := Fr.app N63 N64q
    show own_Go p e below _ T64 (mkF m 93 #[.val (.int p1), .val (.int (4 : Int32)), .val (.ref a_GREATER), .val (.int (0 : Int32)), .val (.int (own_ie a_GREATER a_EQUALS a_NOT_EQUALS)), .unset, .unset] [(.ref s_GREATER)])
    refine own_by (fun t_ k_ => XS.astore X64.here hx rfl (hb hby at_93) rfl rfl (l' := #[.val (.int p1), .val (.int (4 : Int32)), .val (.ref a_GREATER), .val (.int (0 : Int32)), .val (.int (own_ie a_GREATER a_EQUALS a_NOT_EQUALS)), .val (.ref s_GREATER), .unset]) rfl k_) ?_
    show own_Go p e below _ T64 (mkF m 95 #[.val (.int p1), .val (.int (4 : Int32)), .val (.ref a_GREATER), .val (.int (0 : Int32)), .val (.int (own_ie a_GREATER a_EQUALS a_NOT_EQUALS)), .val (.ref s_GREATER), .unset] [])
    refine own_by (fun t_ k_ => XS.aload X64.here hx rfl (hb hby at_95) rfl rfl k_) ?_
    show own_Go p e below _ T64 (mkF m 97 #[.val (.int p1), .val (.int (4 : Int32)), .val (.ref a_GREATER), .val (.int (0 : Int32)), .val (.int (own_ie a_GREATER a_EQUALS a_NOT_EQUALS)), .val (.ref s_GREATER), .unset] [(.ref s_GREATER)])
    refine own_ldcC X64 hx hZ hown (hw _ (List.mem_of_getElem? (i := 17) rfl)) hwS e64 hS0 hk0 hEL (by decide) hCH [(61 : Int32)] (1 : Int32) (by decide) (by decide) (by decide) (hb hby at_97) 64 (by decide) (by decide) (by decide) (by decide) ?_
    intro b65 T65 h65 k65 d65 X65 e65 E65 hS65 hk65 hZ hown Es65 C65 W65 V65 H65
    have sz65 : n0 ≤ h65.size := Nat.le_trans Z0 E65.1
    show own_Go p e below _ T65 (mkF m 99 #[.val (.int p1), .val (.int (4 : Int32)), .val (.ref a_GREATER), .val (.int (0 : Int32)), .val (.int (own_ie a_GREATER a_EQUALS a_NOT_EQUALS)), .val (.ref s_GREATER), .unset] [(.ref b65), (.ref s_GREATER)])
    have Es_GREATER_66 : Exa Z h65 s_GREATER "java/lang/String" := (Exa.ext E65 Es_GREATER)
    have C_GREATER_67 : Fld Z h65 s_GREATER "java/lang/String" "coder" "B" (.int (0 : Int32)) := (Fld.ext E65 C_GREATER)
    have W_GREATER_68 : Fld Z h65 s_GREATER "java/lang/String" "value" "[B" (.ref b_GREATER) := (Fld.ext E65 W_GREATER)
    have V_GREATER_69 : own_Arr Z h65 b_GREATER .byte ([(62 : Int32)].map Value.int) := (own_Arr.ext V_GREATER E65)
    have S_cs_70 : Sta Z h65 "java/lang/String" "COMPACT_STRINGS" "Z" (.int cs) := (Sta.ext E65 S_cs)
    refine own_callV (W := 0) X65 hx hZ (y := (⟨"java/lang/String", "equals", "(Ljava/lang/Object;)Z"⟩ : MethodName)) (z := (⟨"java/lang/String", "equals", "(Ljava/lang/Object;)Z"⟩ : MethodName)) hown (hw _ (List.mem_of_getElem? (i := 25) rfl)) (hw _ (List.mem_of_getElem? (i := 26) rfl)) (notFace_of_selects (args := #[]) (mvT hZ (hw _ (List.mem_of_getElem? (i := 28) rfl)))) (hw _ (List.mem_of_getElem? (i := 28) rfl)) (hw _ (List.mem_of_getElem? (i := 27) rfl)) (hw _ (List.mem_of_getElem? (i := 18) rfl)) (hw _ (List.mem_of_getElem? (i := 29) rfl)) (by decide) (by rw [hml]; rfl) (argsL := [(.ref b65)]) pd_2 rfl (a := s_GREATER) e65 Es_GREATER_66 (rm3 l Z a0 hw [] s_GREATER b65 b_GREATER d65 [(62 : Int32)] [(61 : Int32)] cs h65 n0 sz65 Es_GREATER_66 C_GREATER_67 W_GREATER_68 V_GREATER_69 Es65 C65 W65 V65 S_cs_70 hcs) (by decide) (by decide) (Nat.le_of_eq rfl) (by decide) (by decide) (rest := []) rfl (hb hby at_99) ?_
    intro v71 T71 L71 X71 hQ71
    obtain ⟨hv71, N71q, e71⟩ := hQ71
    rw [show own_eqv [(62 : Int32)] [(61 : Int32)] = (0 : Int32) from by decide] at hv71
    subst hv71
    have N71 := Fr.app N64 N71q
    show own_Go p e below _ T71 (mkF m 102 #[.val (.int p1), .val (.int (4 : Int32)), .val (.ref a_GREATER), .val (.int (0 : Int32)), .val (.int (own_ie a_GREATER a_EQUALS a_NOT_EQUALS)), .val (.ref s_GREATER), .unset] [(.int (0 : Int32))])
    refine own_if X71 hx 115 (hb hby at_102) (by decide) (by decide) (fun hc => absurd (show (0 : Int32) = (0 : Int32) from by decide) (by first | exact hc | exact not_not_intro hc)) (fun _ => ?_)
    show own_Go p e below _ T71 (mkF m 105 #[.val (.int p1), .val (.int (4 : Int32)), .val (.ref a_GREATER), .val (.int (0 : Int32)), .val (.int (own_ie a_GREATER a_EQUALS a_NOT_EQUALS)), .val (.ref s_GREATER), .unset] [])
    refine own_by (fun t_ k_ => XS.aload X71.here hx rfl (hb hby at_105) rfl rfl k_) ?_
    show own_Go p e below _ T71 (mkF m 107 #[.val (.int p1), .val (.int (4 : Int32)), .val (.ref a_GREATER), .val (.int (0 : Int32)), .val (.int (own_ie a_GREATER a_EQUALS a_NOT_EQUALS)), .val (.ref s_GREATER), .unset] [(.ref s_GREATER)])
    refine own_ldcC X71 hx hZ hown (hw _ (List.mem_of_getElem? (i := 43) rfl)) hwS e71 hS65 hk65 hEL (by decide) H65.1 [(60 : Int32), (62 : Int32)] (2 : Int32) (by decide) (by decide) (by decide) (hb hby at_107) 64 (by decide) (by decide) (by decide) (by decide) ?_
    intro b72 T72 h72 k72 d72 X72 e72 E72 hS72 hk72 hZ hown Es72 C72 W72 V72 H72
    have sz72 : n0 ≤ h72.size := Nat.le_trans sz65 E72.1
    show own_Go p e below _ T72 (mkF m 109 #[.val (.int p1), .val (.int (4 : Int32)), .val (.ref a_GREATER), .val (.int (0 : Int32)), .val (.int (own_ie a_GREATER a_EQUALS a_NOT_EQUALS)), .val (.ref s_GREATER), .unset] [(.ref b72), (.ref s_GREATER)])
    have Es_GREATER_73 : Exa Z h72 s_GREATER "java/lang/String" := (Exa.ext E72 Es_GREATER_66)
    have C_GREATER_74 : Fld Z h72 s_GREATER "java/lang/String" "coder" "B" (.int (0 : Int32)) := (Fld.ext E72 C_GREATER_67)
    have W_GREATER_75 : Fld Z h72 s_GREATER "java/lang/String" "value" "[B" (.ref b_GREATER) := (Fld.ext E72 W_GREATER_68)
    have V_GREATER_76 : own_Arr Z h72 b_GREATER .byte ([(62 : Int32)].map Value.int) := (own_Arr.ext V_GREATER_69 E72)
    have S_cs_77 : Sta Z h72 "java/lang/String" "COMPACT_STRINGS" "Z" (.int cs) := (Sta.ext E72 S_cs_70)
    refine own_callV (W := 0) X72 hx hZ (y := (⟨"java/lang/String", "equals", "(Ljava/lang/Object;)Z"⟩ : MethodName)) (z := (⟨"java/lang/String", "equals", "(Ljava/lang/Object;)Z"⟩ : MethodName)) hown (hw _ (List.mem_of_getElem? (i := 25) rfl)) (hw _ (List.mem_of_getElem? (i := 26) rfl)) (notFace_of_selects (args := #[]) (mvT hZ (hw _ (List.mem_of_getElem? (i := 28) rfl)))) (hw _ (List.mem_of_getElem? (i := 28) rfl)) (hw _ (List.mem_of_getElem? (i := 27) rfl)) (hw _ (List.mem_of_getElem? (i := 18) rfl)) (hw _ (List.mem_of_getElem? (i := 29) rfl)) (by decide) (by rw [hml]; rfl) (argsL := [(.ref b72)]) pd_2 rfl (a := s_GREATER) e72 Es_GREATER_73 (rm3 l Z a0 hw [] s_GREATER b72 b_GREATER d72 [(62 : Int32)] [(60 : Int32), (62 : Int32)] cs h72 n0 sz72 Es_GREATER_73 C_GREATER_74 W_GREATER_75 V_GREATER_76 Es72 C72 W72 V72 S_cs_77 hcs) (by decide) (by decide) (Nat.le_of_eq rfl) (by decide) (by decide) (rest := []) rfl (hb hby at_109) ?_
    intro v78 T78 L78 X78 hQ78
    obtain ⟨hv78, N78q, e78⟩ := hQ78
    rw [show own_eqv [(62 : Int32)] [(60 : Int32), (62 : Int32)] = (0 : Int32) from by decide] at hv78
    subst hv78
    have N78 := Fr.app N71 N78q
    show own_Go p e below _ T78 (mkF m 112 #[.val (.int p1), .val (.int (4 : Int32)), .val (.ref a_GREATER), .val (.int (0 : Int32)), .val (.int (own_ie a_GREATER a_EQUALS a_NOT_EQUALS)), .val (.ref s_GREATER), .unset] [(.int (0 : Int32))])
    refine own_if X78 hx 119 (hb hby at_112) (by decide) (by decide) (fun _ => ?_) (fun hc => absurd (show (0 : Int32) = (0 : Int32) from by decide) (by first | exact hc | exact not_not_intro hc))
    show own_Go p e below _ T78 (mkF m 119 #[.val (.int p1), .val (.int (4 : Int32)), .val (.ref a_GREATER), .val (.int (0 : Int32)), .val (.int (own_ie a_GREATER a_EQUALS a_NOT_EQUALS)), .val (.ref s_GREATER), .unset] [])
    refine own_by (fun t_ k_ => XS.iconst X78.here hx rfl (hb hby at_119) k_) ?_
    show own_Go p e below _ T78 (mkF m 120 #[.val (.int p1), .val (.int (4 : Int32)), .val (.ref a_GREATER), .val (.int (0 : Int32)), .val (.int (own_ie a_GREATER a_EQUALS a_NOT_EQUALS)), .val (.ref s_GREATER), .unset] [(.int (0 : Int32))])
    refine own_by (fun t_ k_ => XS.istore X78.here hx rfl (hb hby at_120) rfl (l' := #[.val (.int p1), .val (.int (4 : Int32)), .val (.ref a_GREATER), .val (.int (0 : Int32)), .val (.int (own_ie a_GREATER a_EQUALS a_NOT_EQUALS)), .val (.ref s_GREATER), .val (.int (0 : Int32))]) rfl k_) ?_
    show own_Go p e below _ T78 (mkF m 122 #[.val (.int p1), .val (.int (4 : Int32)), .val (.ref a_GREATER), .val (.int (0 : Int32)), .val (.int (own_ie a_GREATER a_EQUALS a_NOT_EQUALS)), .val (.ref s_GREATER), .val (.int (0 : Int32))] [])
    refine own_by (fun t_ k_ => XS.iload X78.here hx rfl (hb hby at_122) rfl k_) ?_
    show own_Go p e below _ T78 (mkF m 124 #[.val (.int p1), .val (.int (4 : Int32)), .val (.ref a_GREATER), .val (.int (0 : Int32)), .val (.int (own_ie a_GREATER a_EQUALS a_NOT_EQUALS)), .val (.ref s_GREATER), .val (.int (0 : Int32))] [(.int (own_ie a_GREATER a_EQUALS a_NOT_EQUALS))])
    refine own_by (fun t_ k_ => XS.iloadN X78.here hx rfl (hb hby at_124) rfl k_) ?_
    show own_Go p e below _ T78 (mkF m 125 #[.val (.int p1), .val (.int (4 : Int32)), .val (.ref a_GREATER), .val (.int (0 : Int32)), .val (.int (own_ie a_GREATER a_EQUALS a_NOT_EQUALS)), .val (.ref s_GREATER), .val (.int (0 : Int32))] [(.int (0 : Int32)), (.int (own_ie a_GREATER a_EQUALS a_NOT_EQUALS))])
    refine own_icmp X78 hx 139 (hb hby at_125) (by decide) (by decide) (fun hc => absurd (show (own_ie a_GREATER a_EQUALS a_NOT_EQUALS) = (0 : Int32) from by simp [own_ie, Fld.ne O_GREATER O_EQUALS (by decide), Fld.ne O_GREATER O_NOT_EQUALS (by decide)]) (by first | exact hc | exact not_not_intro hc)) (fun _ => ?_)
    show own_Go p e below _ T78 (mkF m 128 #[.val (.int p1), .val (.int (4 : Int32)), .val (.ref a_GREATER), .val (.int (0 : Int32)), .val (.int (own_ie a_GREATER a_EQUALS a_NOT_EQUALS)), .val (.ref s_GREATER), .val (.int (0 : Int32))] [])
    refine own_by (fun t_ k_ => XS.iload X78.here hx rfl (hb hby at_128) rfl k_) ?_
    show own_Go p e below _ T78 (mkF m 130 #[.val (.int p1), .val (.int (4 : Int32)), .val (.ref a_GREATER), .val (.int (0 : Int32)), .val (.int (own_ie a_GREATER a_EQUALS a_NOT_EQUALS)), .val (.ref s_GREATER), .val (.int (0 : Int32))] [(.int (own_ie a_GREATER a_EQUALS a_NOT_EQUALS))])
    refine own_by (fun t_ k_ => XS.iload X78.here hx rfl (hb hby at_130) rfl k_) ?_
    show own_Go p e below _ T78 (mkF m 132 #[.val (.int p1), .val (.int (4 : Int32)), .val (.ref a_GREATER), .val (.int (0 : Int32)), .val (.int (own_ie a_GREATER a_EQUALS a_NOT_EQUALS)), .val (.ref s_GREATER), .val (.int (0 : Int32))] [(.int (0 : Int32)), (.int (own_ie a_GREATER a_EQUALS a_NOT_EQUALS))])
    refine own_icmp X78 hx 139 (hb hby at_132) (by decide) (by decide) (fun hc => absurd (show (own_ie a_GREATER a_EQUALS a_NOT_EQUALS) = (0 : Int32) from by simp [own_ie, Fld.ne O_GREATER O_EQUALS (by decide), Fld.ne O_GREATER O_NOT_EQUALS (by decide)]) (by first | exact hc | exact not_not_intro hc)) (fun _ => ?_)
    show own_Go p e below _ T78 (mkF m 135 #[.val (.int p1), .val (.int (4 : Int32)), .val (.ref a_GREATER), .val (.int (0 : Int32)), .val (.int (own_ie a_GREATER a_EQUALS a_NOT_EQUALS)), .val (.ref s_GREATER), .val (.int (0 : Int32))] [])
    refine own_by (fun t_ k_ => XS.iconst X78.here hx rfl (hb hby at_135) k_) ?_
    show own_Go p e below _ T78 (mkF m 136 #[.val (.int p1), .val (.int (4 : Int32)), .val (.ref a_GREATER), .val (.int (0 : Int32)), .val (.int (own_ie a_GREATER a_EQUALS a_NOT_EQUALS)), .val (.ref s_GREATER), .val (.int (0 : Int32))] [(.int (1 : Int32))])
    refine own_by (fun t_ k_ => XS.goto X78.here hx rfl (pc0 := 136) (pc' := 140) rfl (hb hby at_136) (by decide) (by decide) k_) ?_
    show own_Go p e below _ T78 (mkF m 140 #[.val (.int p1), .val (.int (4 : Int32)), .val (.ref a_GREATER), .val (.int (0 : Int32)), .val (.int (own_ie a_GREATER a_EQUALS a_NOT_EQUALS)), .val (.ref s_GREATER), .val (.int (0 : Int32))] [(.int (1 : Int32))])
    refine own_retZw X78 hx hS72 hk72 hlk Bd.returns (by decide) (hb hby at_140) e78 (by decide) (by decide) ?_
    exact ⟨rfl, N78⟩
  · show own_Go p e below _ s₁ (mkF m 8 #[.val (.int p1), .val (.int (5 : Int32)), .unset, .unset, .unset, .unset, .unset] [])
    refine own_by (fun t_ k_ => XS.iloadN X0.here hx rfl (hb hby at_8) rfl k_) ?_
    show own_Go p e below _ s₁ (mkF m 9 #[.val (.int p1), .val (.int (5 : Int32)), .unset, .unset, .unset, .unset, .unset] [(.int (5 : Int32))])
    refine own_if X0 hx 21 (hb hby at_9) (by decide) (by decide) (fun _ => ?_) (fun hc => absurd (show ¬ (5 : Int32) = (0 : Int32) from by decide) (by first | exact hc | exact not_not_intro hc))
    show own_Go p e below _ s₁ (mkF m 21 #[.val (.int p1), .val (.int (5 : Int32)), .unset, .unset, .unset, .unset, .unset] [])
    refine own_by (fun t_ k_ => XS.iloadN X0.here hx rfl (hb hby at_21) rfl k_) ?_
    show own_Go p e below _ s₁ (mkF m 22 #[.val (.int p1), .val (.int (5 : Int32)), .unset, .unset, .unset, .unset, .unset] [(.int (5 : Int32))])
    refine own_by (fun t_ k_ => XS.iconst X0.here hx rfl (hb hby at_22) k_) ?_
    show own_Go p e below _ s₁ (mkF m 23 #[.val (.int p1), .val (.int (5 : Int32)), .unset, .unset, .unset, .unset, .unset] [(.int (1 : Int32)), (.int (5 : Int32))])
    refine own_icmp X0 hx 35 (hb hby at_23) (by decide) (by decide) (fun _ => ?_) (fun hc => absurd (show ¬ (5 : Int32) = (1 : Int32) from by decide) (by first | exact hc | exact not_not_intro hc))
    show own_Go p e below _ s₁ (mkF m 35 #[.val (.int p1), .val (.int (5 : Int32)), .unset, .unset, .unset, .unset, .unset] [])
    refine own_by (fun t_ k_ => XS.iloadN X0.here hx rfl (hb hby at_35) rfl k_) ?_
    show own_Go p e below _ s₁ (mkF m 36 #[.val (.int p1), .val (.int (5 : Int32)), .unset, .unset, .unset, .unset, .unset] [(.int (5 : Int32))])
    refine own_by (fun t_ k_ => XS.iconst X0.here hx rfl (hb hby at_36) k_) ?_
    show own_Go p e below _ s₁ (mkF m 37 #[.val (.int p1), .val (.int (5 : Int32)), .unset, .unset, .unset, .unset, .unset] [(.int (2 : Int32)), (.int (5 : Int32))])
    refine own_icmp X0 hx 49 (hb hby at_37) (by decide) (by decide) (fun _ => ?_) (fun hc => absurd (show ¬ (5 : Int32) = (2 : Int32) from by decide) (by first | exact hc | exact not_not_intro hc))
    show own_Go p e below _ s₁ (mkF m 49 #[.val (.int p1), .val (.int (5 : Int32)), .unset, .unset, .unset, .unset, .unset] [])
    refine own_by (fun t_ k_ => XS.iloadN X0.here hx rfl (hb hby at_49) rfl k_) ?_
    show own_Go p e below _ s₁ (mkF m 50 #[.val (.int p1), .val (.int (5 : Int32)), .unset, .unset, .unset, .unset, .unset] [(.int (5 : Int32))])
    refine own_by (fun t_ k_ => XS.iconst X0.here hx rfl (hb hby at_50) k_) ?_
    show own_Go p e below _ s₁ (mkF m 51 #[.val (.int p1), .val (.int (5 : Int32)), .unset, .unset, .unset, .unset, .unset] [(.int (3 : Int32)), (.int (5 : Int32))])
    refine own_icmp X0 hx 63 (hb hby at_51) (by decide) (by decide) (fun _ => ?_) (fun hc => absurd (show ¬ (5 : Int32) = (3 : Int32) from by decide) (by first | exact hc | exact not_not_intro hc))
    show own_Go p e below _ s₁ (mkF m 63 #[.val (.int p1), .val (.int (5 : Int32)), .unset, .unset, .unset, .unset, .unset] [])
    refine own_by (fun t_ k_ => XS.iloadN X0.here hx rfl (hb hby at_63) rfl k_) ?_
    show own_Go p e below _ s₁ (mkF m 64 #[.val (.int p1), .val (.int (5 : Int32)), .unset, .unset, .unset, .unset, .unset] [(.int (5 : Int32))])
    refine own_by (fun t_ k_ => XS.iconst X0.here hx rfl (hb hby at_64) k_) ?_
    show own_Go p e below _ s₁ (mkF m 65 #[.val (.int p1), .val (.int (5 : Int32)), .unset, .unset, .unset, .unset, .unset] [(.int (4 : Int32)), (.int (5 : Int32))])
    refine own_icmp X0 hx 77 (hb hby at_65) (by decide) (by decide) (fun _ => ?_) (fun hc => absurd (show ¬ (5 : Int32) = (4 : Int32) from by decide) (by first | exact hc | exact not_not_intro hc))
    show own_Go p e below _ s₁ (mkF m 77 #[.val (.int p1), .val (.int (5 : Int32)), .unset, .unset, .unset, .unset, .unset] [])
    refine own_getS X0 hx hZ hown (hw _ (List.mem_of_getElem? (i := 47) rfl)) Via.refl e0 S_GREATER_EQUALS (hb hby at_77) ?_
    intro T79 X79 e79
    show own_Go p e below _ T79 (mkF m 80 #[.val (.int p1), .val (.int (5 : Int32)), .unset, .unset, .unset, .unset, .unset] [(.ref a_GREATER_EQUALS)])
    refine own_by (fun t_ k_ => XS.astoreN X79.here hx rfl (hb hby at_80) rfl rfl (l' := #[.val (.int p1), .val (.int (5 : Int32)), .val (.ref a_GREATER_EQUALS), .unset, .unset, .unset, .unset]) rfl k_) ?_
    show own_Go p e below _ T79 (mkF m 81 #[.val (.int p1), .val (.int (5 : Int32)), .val (.ref a_GREATER_EQUALS), .unset, .unset, .unset, .unset] [])
    refine own_by (fun t_ k_ => XS.iconst X79.here hx rfl (hb hby at_81) k_) ?_
    show own_Go p e below _ T79 (mkF m 82 #[.val (.int p1), .val (.int (5 : Int32)), .val (.ref a_GREATER_EQUALS), .unset, .unset, .unset, .unset] [(.int (0 : Int32))])
    refine own_by (fun t_ k_ => XS.istoreN X79.here hx rfl (hb hby at_82) rfl (l' := #[.val (.int p1), .val (.int (5 : Int32)), .val (.ref a_GREATER_EQUALS), .val (.int (0 : Int32)), .unset, .unset, .unset]) rfl k_) ?_
    show own_Go p e below _ T79 (mkF m 83 #[.val (.int p1), .val (.int (5 : Int32)), .val (.ref a_GREATER_EQUALS), .val (.int (0 : Int32)), .unset, .unset, .unset] [])
    refine own_by (fun t_ k_ => XS.aloadN X79.here hx rfl (hb hby at_83) rfl rfl k_) ?_
    show own_Go p e below _ T79 (mkF m 84 #[.val (.int p1), .val (.int (5 : Int32)), .val (.ref a_GREATER_EQUALS), .val (.int (0 : Int32)), .unset, .unset, .unset] [(.ref a_GREATER_EQUALS)])
    refine own_callV (W := 0) X79 hx hZ (y := (⟨"com/example/kediri/kediri/jpql/Expression$Operator", "isEquality", "()Z"⟩ : MethodName)) (z := (⟨"com/example/kediri/kediri/jpql/Expression$Operator", "isEquality", "()Z"⟩ : MethodName)) hown (hw _ (List.mem_of_getElem? (i := 4) rfl)) (hw _ (List.mem_of_getElem? (i := 5) rfl)) (notFace_of_selects (args := #[]) (mvT hZ (hw _ (List.mem_of_getElem? (i := 7) rfl)))) (hw _ (List.mem_of_getElem? (i := 7) rfl)) (hw _ (List.mem_of_getElem? (i := 6) rfl)) (hw _ (List.mem_of_getElem? (i := 2) rfl)) (hw _ (List.mem_of_getElem? (i := 8) rfl)) (by decide) (by rw [hml]; rfl) (argsL := []) pd_0 rfl (a := a_GREATER_EQUALS) e79 E_GREATER_EQUALS (rm1 l Z a0 hw [] a_GREATER_EQUALS a_EQUALS a_NOT_EQUALS h0 n0 Z0 S_EQUALS S_NOT_EQUALS) (by decide) (by decide) (Nat.le_of_eq rfl) (by decide) (by decide) (rest := []) rfl (hb hby at_84) ?_
    intro v80 T80 L80 X80 hQ80
    obtain ⟨rfl, N80q, e80⟩ := hQ80
    have N80 := Fr.app N0 N80q
    show own_Go p e below _ T80 (mkF m 87 #[.val (.int p1), .val (.int (5 : Int32)), .val (.ref a_GREATER_EQUALS), .val (.int (0 : Int32)), .unset, .unset, .unset] [(.int (own_ie a_GREATER_EQUALS a_EQUALS a_NOT_EQUALS))])
    refine own_by (fun t_ k_ => XS.istore X80.here hx rfl (hb hby at_87) rfl (l' := #[.val (.int p1), .val (.int (5 : Int32)), .val (.ref a_GREATER_EQUALS), .val (.int (0 : Int32)), .val (.int (own_ie a_GREATER_EQUALS a_EQUALS a_NOT_EQUALS)), .unset, .unset]) rfl k_) ?_
    show own_Go p e below _ T80 (mkF m 89 #[.val (.int p1), .val (.int (5 : Int32)), .val (.ref a_GREATER_EQUALS), .val (.int (0 : Int32)), .val (.int (own_ie a_GREATER_EQUALS a_EQUALS a_NOT_EQUALS)), .unset, .unset] [])
    refine own_by (fun t_ k_ => XS.aloadN X80.here hx rfl (hb hby at_89) rfl rfl k_) ?_
    show own_Go p e below _ T80 (mkF m 90 #[.val (.int p1), .val (.int (5 : Int32)), .val (.ref a_GREATER_EQUALS), .val (.int (0 : Int32)), .val (.int (own_ie a_GREATER_EQUALS a_EQUALS a_NOT_EQUALS)), .unset, .unset] [(.ref a_GREATER_EQUALS)])
    refine own_callV (W := 0) X80 hx hZ (y := (⟨"com/example/kediri/kediri/jpql/Expression$Operator", "symbol", "()Ljava/lang/String;"⟩ : MethodName)) (z := (⟨"com/example/kediri/kediri/jpql/Expression$Operator", "symbol", "()Ljava/lang/String;"⟩ : MethodName)) hown (hw _ (List.mem_of_getElem? (i := 10) rfl)) (hw _ (List.mem_of_getElem? (i := 11) rfl)) (notFace_of_selects (args := #[]) (mvT hZ (hw _ (List.mem_of_getElem? (i := 13) rfl)))) (hw _ (List.mem_of_getElem? (i := 13) rfl)) (hw _ (List.mem_of_getElem? (i := 12) rfl)) (hw _ (List.mem_of_getElem? (i := 2) rfl)) (hw _ (List.mem_of_getElem? (i := 14) rfl)) (by decide) (by rw [hml]; rfl) (argsL := []) pd_1 rfl (a := a_GREATER_EQUALS) e80 E_GREATER_EQUALS (rm2 l Z a0 hw [] a_GREATER_EQUALS s_GREATER_EQUALS h0 n0 Z0 Y_GREATER_EQUALS) (by decide) (by decide) (Nat.le_of_eq rfl) (by decide) (by decide) (rest := []) rfl (hb hby at_90) ?_
    intro v81 T81 L81 X81 hQ81
    obtain ⟨rfl, N81q, e81⟩ := hQ81
    have N81 := Fr.app N80 N81q
    show own_Go p e below _ T81 (mkF m 93 #[.val (.int p1), .val (.int (5 : Int32)), .val (.ref a_GREATER_EQUALS), .val (.int (0 : Int32)), .val (.int (own_ie a_GREATER_EQUALS a_EQUALS a_NOT_EQUALS)), .unset, .unset] [(.ref s_GREATER_EQUALS)])
    refine own_by (fun t_ k_ => XS.astore X81.here hx rfl (hb hby at_93) rfl rfl (l' := #[.val (.int p1), .val (.int (5 : Int32)), .val (.ref a_GREATER_EQUALS), .val (.int (0 : Int32)), .val (.int (own_ie a_GREATER_EQUALS a_EQUALS a_NOT_EQUALS)), .val (.ref s_GREATER_EQUALS), .unset]) rfl k_) ?_
    show own_Go p e below _ T81 (mkF m 95 #[.val (.int p1), .val (.int (5 : Int32)), .val (.ref a_GREATER_EQUALS), .val (.int (0 : Int32)), .val (.int (own_ie a_GREATER_EQUALS a_EQUALS a_NOT_EQUALS)), .val (.ref s_GREATER_EQUALS), .unset] [])
    refine own_by (fun t_ k_ => XS.aload X81.here hx rfl (hb hby at_95) rfl rfl k_) ?_
    show own_Go p e below _ T81 (mkF m 97 #[.val (.int p1), .val (.int (5 : Int32)), .val (.ref a_GREATER_EQUALS), .val (.int (0 : Int32)), .val (.int (own_ie a_GREATER_EQUALS a_EQUALS a_NOT_EQUALS)), .val (.ref s_GREATER_EQUALS), .unset] [(.ref s_GREATER_EQUALS)])
    refine own_ldcC X81 hx hZ hown (hw _ (List.mem_of_getElem? (i := 17) rfl)) hwS e81 hS0 hk0 hEL (by decide) hCH [(61 : Int32)] (1 : Int32) (by decide) (by decide) (by decide) (hb hby at_97) 64 (by decide) (by decide) (by decide) (by decide) ?_
    intro b82 T82 h82 k82 d82 X82 e82 E82 hS82 hk82 hZ hown Es82 C82 W82 V82 H82
    have sz82 : n0 ≤ h82.size := Nat.le_trans Z0 E82.1
    show own_Go p e below _ T82 (mkF m 99 #[.val (.int p1), .val (.int (5 : Int32)), .val (.ref a_GREATER_EQUALS), .val (.int (0 : Int32)), .val (.int (own_ie a_GREATER_EQUALS a_EQUALS a_NOT_EQUALS)), .val (.ref s_GREATER_EQUALS), .unset] [(.ref b82), (.ref s_GREATER_EQUALS)])
    have Es_GREATER_EQUALS_83 : Exa Z h82 s_GREATER_EQUALS "java/lang/String" := (Exa.ext E82 Es_GREATER_EQUALS)
    have C_GREATER_EQUALS_84 : Fld Z h82 s_GREATER_EQUALS "java/lang/String" "coder" "B" (.int (0 : Int32)) := (Fld.ext E82 C_GREATER_EQUALS)
    have W_GREATER_EQUALS_85 : Fld Z h82 s_GREATER_EQUALS "java/lang/String" "value" "[B" (.ref b_GREATER_EQUALS) := (Fld.ext E82 W_GREATER_EQUALS)
    have V_GREATER_EQUALS_86 : own_Arr Z h82 b_GREATER_EQUALS .byte ([(62 : Int32), (61 : Int32)].map Value.int) := (own_Arr.ext V_GREATER_EQUALS E82)
    have S_cs_87 : Sta Z h82 "java/lang/String" "COMPACT_STRINGS" "Z" (.int cs) := (Sta.ext E82 S_cs)
    refine own_callV (W := 0) X82 hx hZ (y := (⟨"java/lang/String", "equals", "(Ljava/lang/Object;)Z"⟩ : MethodName)) (z := (⟨"java/lang/String", "equals", "(Ljava/lang/Object;)Z"⟩ : MethodName)) hown (hw _ (List.mem_of_getElem? (i := 25) rfl)) (hw _ (List.mem_of_getElem? (i := 26) rfl)) (notFace_of_selects (args := #[]) (mvT hZ (hw _ (List.mem_of_getElem? (i := 28) rfl)))) (hw _ (List.mem_of_getElem? (i := 28) rfl)) (hw _ (List.mem_of_getElem? (i := 27) rfl)) (hw _ (List.mem_of_getElem? (i := 18) rfl)) (hw _ (List.mem_of_getElem? (i := 29) rfl)) (by decide) (by rw [hml]; rfl) (argsL := [(.ref b82)]) pd_2 rfl (a := s_GREATER_EQUALS) e82 Es_GREATER_EQUALS_83 (rm3 l Z a0 hw [] s_GREATER_EQUALS b82 b_GREATER_EQUALS d82 [(62 : Int32), (61 : Int32)] [(61 : Int32)] cs h82 n0 sz82 Es_GREATER_EQUALS_83 C_GREATER_EQUALS_84 W_GREATER_EQUALS_85 V_GREATER_EQUALS_86 Es82 C82 W82 V82 S_cs_87 hcs) (by decide) (by decide) (Nat.le_of_eq rfl) (by decide) (by decide) (rest := []) rfl (hb hby at_99) ?_
    intro v88 T88 L88 X88 hQ88
    obtain ⟨hv88, N88q, e88⟩ := hQ88
    rw [show own_eqv [(62 : Int32), (61 : Int32)] [(61 : Int32)] = (0 : Int32) from by decide] at hv88
    subst hv88
    have N88 := Fr.app N81 N88q
    show own_Go p e below _ T88 (mkF m 102 #[.val (.int p1), .val (.int (5 : Int32)), .val (.ref a_GREATER_EQUALS), .val (.int (0 : Int32)), .val (.int (own_ie a_GREATER_EQUALS a_EQUALS a_NOT_EQUALS)), .val (.ref s_GREATER_EQUALS), .unset] [(.int (0 : Int32))])
    refine own_if X88 hx 115 (hb hby at_102) (by decide) (by decide) (fun hc => absurd (show (0 : Int32) = (0 : Int32) from by decide) (by first | exact hc | exact not_not_intro hc)) (fun _ => ?_)
    show own_Go p e below _ T88 (mkF m 105 #[.val (.int p1), .val (.int (5 : Int32)), .val (.ref a_GREATER_EQUALS), .val (.int (0 : Int32)), .val (.int (own_ie a_GREATER_EQUALS a_EQUALS a_NOT_EQUALS)), .val (.ref s_GREATER_EQUALS), .unset] [])
    refine own_by (fun t_ k_ => XS.aload X88.here hx rfl (hb hby at_105) rfl rfl k_) ?_
    show own_Go p e below _ T88 (mkF m 107 #[.val (.int p1), .val (.int (5 : Int32)), .val (.ref a_GREATER_EQUALS), .val (.int (0 : Int32)), .val (.int (own_ie a_GREATER_EQUALS a_EQUALS a_NOT_EQUALS)), .val (.ref s_GREATER_EQUALS), .unset] [(.ref s_GREATER_EQUALS)])
    refine own_ldcC X88 hx hZ hown (hw _ (List.mem_of_getElem? (i := 43) rfl)) hwS e88 hS82 hk82 hEL (by decide) H82.1 [(60 : Int32), (62 : Int32)] (2 : Int32) (by decide) (by decide) (by decide) (hb hby at_107) 64 (by decide) (by decide) (by decide) (by decide) ?_
    intro b89 T89 h89 k89 d89 X89 e89 E89 hS89 hk89 hZ hown Es89 C89 W89 V89 H89
    have sz89 : n0 ≤ h89.size := Nat.le_trans sz82 E89.1
    show own_Go p e below _ T89 (mkF m 109 #[.val (.int p1), .val (.int (5 : Int32)), .val (.ref a_GREATER_EQUALS), .val (.int (0 : Int32)), .val (.int (own_ie a_GREATER_EQUALS a_EQUALS a_NOT_EQUALS)), .val (.ref s_GREATER_EQUALS), .unset] [(.ref b89), (.ref s_GREATER_EQUALS)])
    have Es_GREATER_EQUALS_90 : Exa Z h89 s_GREATER_EQUALS "java/lang/String" := (Exa.ext E89 Es_GREATER_EQUALS_83)
    have C_GREATER_EQUALS_91 : Fld Z h89 s_GREATER_EQUALS "java/lang/String" "coder" "B" (.int (0 : Int32)) := (Fld.ext E89 C_GREATER_EQUALS_84)
    have W_GREATER_EQUALS_92 : Fld Z h89 s_GREATER_EQUALS "java/lang/String" "value" "[B" (.ref b_GREATER_EQUALS) := (Fld.ext E89 W_GREATER_EQUALS_85)
    have V_GREATER_EQUALS_93 : own_Arr Z h89 b_GREATER_EQUALS .byte ([(62 : Int32), (61 : Int32)].map Value.int) := (own_Arr.ext V_GREATER_EQUALS_86 E89)
    have S_cs_94 : Sta Z h89 "java/lang/String" "COMPACT_STRINGS" "Z" (.int cs) := (Sta.ext E89 S_cs_87)
    refine own_callV (W := 0) X89 hx hZ (y := (⟨"java/lang/String", "equals", "(Ljava/lang/Object;)Z"⟩ : MethodName)) (z := (⟨"java/lang/String", "equals", "(Ljava/lang/Object;)Z"⟩ : MethodName)) hown (hw _ (List.mem_of_getElem? (i := 25) rfl)) (hw _ (List.mem_of_getElem? (i := 26) rfl)) (notFace_of_selects (args := #[]) (mvT hZ (hw _ (List.mem_of_getElem? (i := 28) rfl)))) (hw _ (List.mem_of_getElem? (i := 28) rfl)) (hw _ (List.mem_of_getElem? (i := 27) rfl)) (hw _ (List.mem_of_getElem? (i := 18) rfl)) (hw _ (List.mem_of_getElem? (i := 29) rfl)) (by decide) (by rw [hml]; rfl) (argsL := [(.ref b89)]) pd_2 rfl (a := s_GREATER_EQUALS) e89 Es_GREATER_EQUALS_90 (rm3 l Z a0 hw [] s_GREATER_EQUALS b89 b_GREATER_EQUALS d89 [(62 : Int32), (61 : Int32)] [(60 : Int32), (62 : Int32)] cs h89 n0 sz89 Es_GREATER_EQUALS_90 C_GREATER_EQUALS_91 W_GREATER_EQUALS_92 V_GREATER_EQUALS_93 Es89 C89 W89 V89 S_cs_94 hcs) (by decide) (by decide) (Nat.le_of_eq rfl) (by decide) (by decide) (rest := []) rfl (hb hby at_109) ?_
    intro v95 T95 L95 X95 hQ95
    obtain ⟨hv95, N95q, e95⟩ := hQ95
    rw [show own_eqv [(62 : Int32), (61 : Int32)] [(60 : Int32), (62 : Int32)] = (0 : Int32) from by decide] at hv95
    subst hv95
    have N95 := Fr.app N88 N95q
    show own_Go p e below _ T95 (mkF m 112 #[.val (.int p1), .val (.int (5 : Int32)), .val (.ref a_GREATER_EQUALS), .val (.int (0 : Int32)), .val (.int (own_ie a_GREATER_EQUALS a_EQUALS a_NOT_EQUALS)), .val (.ref s_GREATER_EQUALS), .unset] [(.int (0 : Int32))])
    refine own_if X95 hx 119 (hb hby at_112) (by decide) (by decide) (fun _ => ?_) (fun hc => absurd (show (0 : Int32) = (0 : Int32) from by decide) (by first | exact hc | exact not_not_intro hc))
    show own_Go p e below _ T95 (mkF m 119 #[.val (.int p1), .val (.int (5 : Int32)), .val (.ref a_GREATER_EQUALS), .val (.int (0 : Int32)), .val (.int (own_ie a_GREATER_EQUALS a_EQUALS a_NOT_EQUALS)), .val (.ref s_GREATER_EQUALS), .unset] [])
    refine own_by (fun t_ k_ => XS.iconst X95.here hx rfl (hb hby at_119) k_) ?_
    show own_Go p e below _ T95 (mkF m 120 #[.val (.int p1), .val (.int (5 : Int32)), .val (.ref a_GREATER_EQUALS), .val (.int (0 : Int32)), .val (.int (own_ie a_GREATER_EQUALS a_EQUALS a_NOT_EQUALS)), .val (.ref s_GREATER_EQUALS), .unset] [(.int (0 : Int32))])
    refine own_by (fun t_ k_ => XS.istore X95.here hx rfl (hb hby at_120) rfl (l' := #[.val (.int p1), .val (.int (5 : Int32)), .val (.ref a_GREATER_EQUALS), .val (.int (0 : Int32)), .val (.int (own_ie a_GREATER_EQUALS a_EQUALS a_NOT_EQUALS)), .val (.ref s_GREATER_EQUALS), .val (.int (0 : Int32))]) rfl k_) ?_
    show own_Go p e below _ T95 (mkF m 122 #[.val (.int p1), .val (.int (5 : Int32)), .val (.ref a_GREATER_EQUALS), .val (.int (0 : Int32)), .val (.int (own_ie a_GREATER_EQUALS a_EQUALS a_NOT_EQUALS)), .val (.ref s_GREATER_EQUALS), .val (.int (0 : Int32))] [])
    refine own_by (fun t_ k_ => XS.iload X95.here hx rfl (hb hby at_122) rfl k_) ?_
    show own_Go p e below _ T95 (mkF m 124 #[.val (.int p1), .val (.int (5 : Int32)), .val (.ref a_GREATER_EQUALS), .val (.int (0 : Int32)), .val (.int (own_ie a_GREATER_EQUALS a_EQUALS a_NOT_EQUALS)), .val (.ref s_GREATER_EQUALS), .val (.int (0 : Int32))] [(.int (own_ie a_GREATER_EQUALS a_EQUALS a_NOT_EQUALS))])
    refine own_by (fun t_ k_ => XS.iloadN X95.here hx rfl (hb hby at_124) rfl k_) ?_
    show own_Go p e below _ T95 (mkF m 125 #[.val (.int p1), .val (.int (5 : Int32)), .val (.ref a_GREATER_EQUALS), .val (.int (0 : Int32)), .val (.int (own_ie a_GREATER_EQUALS a_EQUALS a_NOT_EQUALS)), .val (.ref s_GREATER_EQUALS), .val (.int (0 : Int32))] [(.int (0 : Int32)), (.int (own_ie a_GREATER_EQUALS a_EQUALS a_NOT_EQUALS))])
    refine own_icmp X95 hx 139 (hb hby at_125) (by decide) (by decide) (fun hc => absurd (show (own_ie a_GREATER_EQUALS a_EQUALS a_NOT_EQUALS) = (0 : Int32) from by simp [own_ie, Fld.ne O_GREATER_EQUALS O_EQUALS (by decide), Fld.ne O_GREATER_EQUALS O_NOT_EQUALS (by decide)]) (by first | exact hc | exact not_not_intro hc)) (fun _ => ?_)
    show own_Go p e below _ T95 (mkF m 128 #[.val (.int p1), .val (.int (5 : Int32)), .val (.ref a_GREATER_EQUALS), .val (.int (0 : Int32)), .val (.int (own_ie a_GREATER_EQUALS a_EQUALS a_NOT_EQUALS)), .val (.ref s_GREATER_EQUALS), .val (.int (0 : Int32))] [])
    refine own_by (fun t_ k_ => XS.iload X95.here hx rfl (hb hby at_128) rfl k_) ?_
    show own_Go p e below _ T95 (mkF m 130 #[.val (.int p1), .val (.int (5 : Int32)), .val (.ref a_GREATER_EQUALS), .val (.int (0 : Int32)), .val (.int (own_ie a_GREATER_EQUALS a_EQUALS a_NOT_EQUALS)), .val (.ref s_GREATER_EQUALS), .val (.int (0 : Int32))] [(.int (own_ie a_GREATER_EQUALS a_EQUALS a_NOT_EQUALS))])
    refine own_by (fun t_ k_ => XS.iload X95.here hx rfl (hb hby at_130) rfl k_) ?_
    show own_Go p e below _ T95 (mkF m 132 #[.val (.int p1), .val (.int (5 : Int32)), .val (.ref a_GREATER_EQUALS), .val (.int (0 : Int32)), .val (.int (own_ie a_GREATER_EQUALS a_EQUALS a_NOT_EQUALS)), .val (.ref s_GREATER_EQUALS), .val (.int (0 : Int32))] [(.int (0 : Int32)), (.int (own_ie a_GREATER_EQUALS a_EQUALS a_NOT_EQUALS))])
    refine own_icmp X95 hx 139 (hb hby at_132) (by decide) (by decide) (fun hc => absurd (show (own_ie a_GREATER_EQUALS a_EQUALS a_NOT_EQUALS) = (0 : Int32) from by simp [own_ie, Fld.ne O_GREATER_EQUALS O_EQUALS (by decide), Fld.ne O_GREATER_EQUALS O_NOT_EQUALS (by decide)]) (by first | exact hc | exact not_not_intro hc)) (fun _ => ?_)
    show own_Go p e below _ T95 (mkF m 135 #[.val (.int p1), .val (.int (5 : Int32)), .val (.ref a_GREATER_EQUALS), .val (.int (0 : Int32)), .val (.int (own_ie a_GREATER_EQUALS a_EQUALS a_NOT_EQUALS)), .val (.ref s_GREATER_EQUALS), .val (.int (0 : Int32))] [])
    refine own_by (fun t_ k_ => XS.iconst X95.here hx rfl (hb hby at_135) k_) ?_
    show own_Go p e below _ T95 (mkF m 136 #[.val (.int p1), .val (.int (5 : Int32)), .val (.ref a_GREATER_EQUALS), .val (.int (0 : Int32)), .val (.int (own_ie a_GREATER_EQUALS a_EQUALS a_NOT_EQUALS)), .val (.ref s_GREATER_EQUALS), .val (.int (0 : Int32))] [(.int (1 : Int32))])
    refine own_by (fun t_ k_ => XS.goto X95.here hx rfl (pc0 := 136) (pc' := 140) rfl (hb hby at_136) (by decide) (by decide) k_) ?_
    show own_Go p e below _ T95 (mkF m 140 #[.val (.int p1), .val (.int (5 : Int32)), .val (.ref a_GREATER_EQUALS), .val (.int (0 : Int32)), .val (.int (own_ie a_GREATER_EQUALS a_EQUALS a_NOT_EQUALS)), .val (.ref s_GREATER_EQUALS), .val (.int (0 : Int32))] [(.int (1 : Int32))])
    refine own_retZw X95 hx hS89 hk89 hlk Bd.returns (by decide) (hb hby at_140) e95 (by decide) (by decide) ?_
    exact ⟨rfl, N95⟩
set_option maxRecDepth 65536 in
set_option maxHeartbeats 40000000 in
theorem comes_1 {Post : Tables → Env → Array Value → State → Outcome → State → Prop} (hpost : ∀ tb e args s v u, (limb_1_1.after args s (.returned v) u = true ∧ limb_1_2.after args s (.returned v) u = true ∧ True) → ReturnedEndW s (.returned v) u (Jvm.fieldLocs frame_1_writes args s ++ Jvm.arrayLocs frame_1_arrays args s ++ Jvm.staticLocs frame_1_statics s) 8 2112 → Post tb e args s (.returned v) u) :
    ArmFor flags0 classFile x code maxLocals ret World_1 tables_1 room_1 Calls_1 rest_1 Pre_1 Post := by
  intro l hfl _ _ p e ha hc hk s m args below hf hA hF happ hP
  obtain ⟨hcalls, hrest, hpre⟩ := hP
  obtain ⟨-, -, -, hnamed, -, -, -, hat⟩ := (Spec.applies_iff hf).mp happ
  obtain ⟨hg, hn⟩ := and_e (Cond.before_iff.mp (show (Jvm.Cond.and given_1 narrow_1).before args s = true from hpre))
  obtain ⟨gc, gr0⟩ := and_e hg
  obtain ⟨w0, rfl⟩ : ∃ w0 : Value, args = #[w0] := by
    have hs : args.size = 1 := by simpa [Cond.value, given_1] using gc
    obtain ⟨L⟩ := args
    match L, hs with
    | [w0], _ => exact ⟨w0, rfl⟩
  have hw := fun d (hd : d ∈ tables_1) => atoms_spec (ws := Jvm.Cond.code x code maxLocals ret :: tables_1) hat d (List.mem_cons_of_mem _ hd)
  have hfit : Fit s := fun {y c} hc i hi => by
    obtain ⟨ha, rfl⟩ := Array.getElem?_eq_some_iff.mp hc
    have q := List.all_eq_true.mp ((Array.all_eq_true_iff_forall_mem.mp hF) _ (Array.getElem_mem ha)) i (List.mem_range.mpr hi)
    simpa [Array.getElem?_eq_getElem hi] using q
  obtain ⟨i0, ei0⟩ := is_v gr0
  obtain rfl : w0 = (.int i0) := Option.some.inj ei0
  obtain ⟨hN0, hR1⟩ := and_e hn
  obtain ⟨hN1, hR2⟩ := and_e hR1
  obtain ⟨hN2, hR3⟩ := and_e hR2
  obtain ⟨hN3, hR4⟩ := and_e hR3
  obtain ⟨hN4, hR5⟩ := and_e hR4
  obtain ⟨hN5, hR6⟩ := and_e hR5
  obtain ⟨hN6, hR7⟩ := and_e hR6
  obtain ⟨hN7, hR8⟩ := and_e hR7
  obtain ⟨hN8, hR9⟩ := and_e hR8
  obtain ⟨hN9, hR10⟩ := and_e hR9
  obtain ⟨hN10, hR11⟩ := and_e hR10
  obtain ⟨hN11, hR12⟩ := and_e hR11
  obtain ⟨hN12, hR13⟩ := and_e hR12
  obtain ⟨hN13, hR14⟩ := and_e hR13
  obtain ⟨hN14, hR15⟩ := and_e hR14
  obtain ⟨hN15, hR16⟩ := and_e hR15
  obtain ⟨hN16, hR17⟩ := and_e hR16
  obtain ⟨hN17, hR18⟩ := and_e hR17
  obtain ⟨hN18, hR19⟩ := and_e hR18
  obtain ⟨hN19, hR20⟩ := and_e hR19
  obtain ⟨hN20, hR21⟩ := and_e hR20
  obtain ⟨hN21, hR22⟩ := and_e hR21
  obtain ⟨hN22, hR23⟩ := and_e hR22
  obtain ⟨hN23, hR24⟩ := and_e hR23
  obtain ⟨hN24, hR25⟩ := and_e hR24
  obtain ⟨hN25, hR26⟩ := and_e hR25
  obtain ⟨hN26, hR27⟩ := and_e hR26
  obtain ⟨hN27, hR28⟩ := and_e hR27
  obtain ⟨hN28, hR29⟩ := and_e hR28
  obtain ⟨hN29, hR30⟩ := and_e hR29
  obtain ⟨hN30, hR31⟩ := and_e hR30
  obtain ⟨hN31, hR32⟩ := and_e hR31
  obtain ⟨hN32, hR33⟩ := and_e hR32
  obtain ⟨hN33, hR34⟩ := and_e hR33
  obtain ⟨hN34, hR35⟩ := and_e hR34
  obtain ⟨hN35, hR36⟩ := and_e hR35
  obtain ⟨hN36, hR37⟩ := and_e hR36
  obtain ⟨hN37, hR38⟩ := and_e hR37
  obtain ⟨hN38, hR39⟩ := and_e hR38
  obtain ⟨hN39, hR40⟩ := and_e hR39
  obtain ⟨hN40, hR41⟩ := and_e hR40
  obtain ⟨hN41, hR42⟩ := and_e hR41
  obtain ⟨hN42, hR43⟩ := and_e hR42
  obtain ⟨hN43, hR44⟩ := and_e hR43
  have hN44 := hR44
  obtain ⟨a_EQUALS, ev_EQUALS⟩ := exa_v hN0
  have E_EQUALS : Exa s s.heap a_EQUALS "com/example/kediri/kediri/jpql/Expression$Operator" := Exa.start ev_EQUALS hN0
  have S_EQUALS : Sta s s.heap "com/example/kediri/kediri/jpql/Expression$Operator" "EQUALS" "Lcom/example/kediri/kediri/jpql/Expression$Operator;" (.ref a_EQUALS) := Sta.start ev_EQUALS (Or.inr ⟨(hw _ (List.mem_of_getElem? (i := 2) rfl)), (hw _ (List.mem_of_getElem? (i := 3) rfl))⟩)
  have O_EQUALS : Fld s s.heap a_EQUALS "java/lang/Enum" "ordinal" "I" (.int (0 : Int32)) := own_fldI ev_EQUALS hN8
  obtain ⟨s_EQUALS, es_EQUALS⟩ := exa_v hN1
  have Es_EQUALS : Exa s s.heap s_EQUALS "java/lang/String" := Exa.start es_EQUALS hN1
  have Y_EQUALS : Fld s s.heap a_EQUALS "com/example/kediri/kediri/jpql/Expression$Operator" "symbol" "Ljava/lang/String;" (.ref s_EQUALS) := own_fldR ev_EQUALS es_EQUALS
  have C_EQUALS : Fld s s.heap s_EQUALS "java/lang/String" "coder" "B" (.int (0 : Int32)) := own_fldI es_EQUALS hN2
  obtain ⟨b_EQUALS, eb_EQUALS⟩ := arr_v hN3
  have W_EQUALS : Fld s s.heap s_EQUALS "java/lang/String" "value" "[B" (.ref b_EQUALS) := own_fldR es_EQUALS eb_EQUALS
  obtain ⟨cl_EQUALS, A_EQUALS⟩ := Arr.start eb_EQUALS hN3
  have V_EQUALS : own_Arr s s.heap b_EQUALS .byte ([(61 : Int32)].map Value.int) := own_arrS hfit A_EQUALS (own_lenI hN4 eb_EQUALS A_EQUALS) (by decide) ⟨own_elemI hN5 eb_EQUALS A_EQUALS (by decide), trivial⟩
  obtain ⟨a_NOT_EQUALS, ev_NOT_EQUALS⟩ := exa_v hN9
  have E_NOT_EQUALS : Exa s s.heap a_NOT_EQUALS "com/example/kediri/kediri/jpql/Expression$Operator" := Exa.start ev_NOT_EQUALS hN9
  have S_NOT_EQUALS : Sta s s.heap "com/example/kediri/kediri/jpql/Expression$Operator" "NOT_EQUALS" "Lcom/example/kediri/kediri/jpql/Expression$Operator;" (.ref a_NOT_EQUALS) := Sta.start ev_NOT_EQUALS (Or.inr ⟨(hw _ (List.mem_of_getElem? (i := 2) rfl)), (hw _ (List.mem_of_getElem? (i := 42) rfl))⟩)
  have O_NOT_EQUALS : Fld s s.heap a_NOT_EQUALS "java/lang/Enum" "ordinal" "I" (.int (1 : Int32)) := own_fldI ev_NOT_EQUALS hN10
  obtain ⟨s_NOT_EQUALS, es_NOT_EQUALS⟩ := exa_v hN24
  have Es_NOT_EQUALS : Exa s s.heap s_NOT_EQUALS "java/lang/String" := Exa.start es_NOT_EQUALS hN24
  have Y_NOT_EQUALS : Fld s s.heap a_NOT_EQUALS "com/example/kediri/kediri/jpql/Expression$Operator" "symbol" "Ljava/lang/String;" (.ref s_NOT_EQUALS) := own_fldR ev_NOT_EQUALS es_NOT_EQUALS
  have C_NOT_EQUALS : Fld s s.heap s_NOT_EQUALS "java/lang/String" "coder" "B" (.int (0 : Int32)) := own_fldI es_NOT_EQUALS hN25
  obtain ⟨b_NOT_EQUALS, eb_NOT_EQUALS⟩ := arr_v hN26
  have W_NOT_EQUALS : Fld s s.heap s_NOT_EQUALS "java/lang/String" "value" "[B" (.ref b_NOT_EQUALS) := own_fldR es_NOT_EQUALS eb_NOT_EQUALS
  obtain ⟨cl_NOT_EQUALS, A_NOT_EQUALS⟩ := Arr.start eb_NOT_EQUALS hN26
  have V_NOT_EQUALS : own_Arr s s.heap b_NOT_EQUALS .byte ([(60 : Int32), (62 : Int32)].map Value.int) := own_arrS hfit A_NOT_EQUALS (own_lenI hN27 eb_NOT_EQUALS A_NOT_EQUALS) (by decide) ⟨own_elemI hN28 eb_NOT_EQUALS A_NOT_EQUALS (by decide), own_elemI hN29 eb_NOT_EQUALS A_NOT_EQUALS (by decide), trivial⟩
  obtain ⟨a_LESS, ev_LESS⟩ := exa_v hN17
  have E_LESS : Exa s s.heap a_LESS "com/example/kediri/kediri/jpql/Expression$Operator" := Exa.start ev_LESS hN17
  have S_LESS : Sta s s.heap "com/example/kediri/kediri/jpql/Expression$Operator" "LESS" "Lcom/example/kediri/kediri/jpql/Expression$Operator;" (.ref a_LESS) := Sta.start ev_LESS (Or.inr ⟨(hw _ (List.mem_of_getElem? (i := 2) rfl)), (hw _ (List.mem_of_getElem? (i := 45) rfl))⟩)
  have O_LESS : Fld s s.heap a_LESS "java/lang/Enum" "ordinal" "I" (.int (2 : Int32)) := own_fldI ev_LESS hN18
  obtain ⟨s_LESS, es_LESS⟩ := exa_v hN19
  have Es_LESS : Exa s s.heap s_LESS "java/lang/String" := Exa.start es_LESS hN19
  have Y_LESS : Fld s s.heap a_LESS "com/example/kediri/kediri/jpql/Expression$Operator" "symbol" "Ljava/lang/String;" (.ref s_LESS) := own_fldR ev_LESS es_LESS
  have C_LESS : Fld s s.heap s_LESS "java/lang/String" "coder" "B" (.int (0 : Int32)) := own_fldI es_LESS hN20
  obtain ⟨b_LESS, eb_LESS⟩ := arr_v hN21
  have W_LESS : Fld s s.heap s_LESS "java/lang/String" "value" "[B" (.ref b_LESS) := own_fldR es_LESS eb_LESS
  obtain ⟨cl_LESS, A_LESS⟩ := Arr.start eb_LESS hN21
  have V_LESS : own_Arr s s.heap b_LESS .byte ([(60 : Int32)].map Value.int) := own_arrS hfit A_LESS (own_lenI hN22 eb_LESS A_LESS) (by decide) ⟨own_elemI hN23 eb_LESS A_LESS (by decide), trivial⟩
  obtain ⟨a_LESS_EQUALS, ev_LESS_EQUALS⟩ := exa_v hN6
  have E_LESS_EQUALS : Exa s s.heap a_LESS_EQUALS "com/example/kediri/kediri/jpql/Expression$Operator" := Exa.start ev_LESS_EQUALS hN6
  have S_LESS_EQUALS : Sta s s.heap "com/example/kediri/kediri/jpql/Expression$Operator" "LESS_EQUALS" "Lcom/example/kediri/kediri/jpql/Expression$Operator;" (.ref a_LESS_EQUALS) := Sta.start ev_LESS_EQUALS (Or.inr ⟨(hw _ (List.mem_of_getElem? (i := 2) rfl)), (hw _ (List.mem_of_getElem? (i := 40) rfl))⟩)
  have O_LESS_EQUALS : Fld s s.heap a_LESS_EQUALS "java/lang/Enum" "ordinal" "I" (.int (3 : Int32)) := own_fldI ev_LESS_EQUALS hN7
  obtain ⟨s_LESS_EQUALS, es_LESS_EQUALS⟩ := exa_v hN11
  have Es_LESS_EQUALS : Exa s s.heap s_LESS_EQUALS "java/lang/String" := Exa.start es_LESS_EQUALS hN11
  have Y_LESS_EQUALS : Fld s s.heap a_LESS_EQUALS "com/example/kediri/kediri/jpql/Expression$Operator" "symbol" "Ljava/lang/String;" (.ref s_LESS_EQUALS) := own_fldR ev_LESS_EQUALS es_LESS_EQUALS
  have C_LESS_EQUALS : Fld s s.heap s_LESS_EQUALS "java/lang/String" "coder" "B" (.int (0 : Int32)) := own_fldI es_LESS_EQUALS hN12
  obtain ⟨b_LESS_EQUALS, eb_LESS_EQUALS⟩ := arr_v hN13
  have W_LESS_EQUALS : Fld s s.heap s_LESS_EQUALS "java/lang/String" "value" "[B" (.ref b_LESS_EQUALS) := own_fldR es_LESS_EQUALS eb_LESS_EQUALS
  obtain ⟨cl_LESS_EQUALS, A_LESS_EQUALS⟩ := Arr.start eb_LESS_EQUALS hN13
  have V_LESS_EQUALS : own_Arr s s.heap b_LESS_EQUALS .byte ([(60 : Int32), (61 : Int32)].map Value.int) := own_arrS hfit A_LESS_EQUALS (own_lenI hN14 eb_LESS_EQUALS A_LESS_EQUALS) (by decide) ⟨own_elemI hN15 eb_LESS_EQUALS A_LESS_EQUALS (by decide), own_elemI hN16 eb_LESS_EQUALS A_LESS_EQUALS (by decide), trivial⟩
  obtain ⟨a_GREATER, ev_GREATER⟩ := exa_v hN37
  have E_GREATER : Exa s s.heap a_GREATER "com/example/kediri/kediri/jpql/Expression$Operator" := Exa.start ev_GREATER hN37
  have S_GREATER : Sta s s.heap "com/example/kediri/kediri/jpql/Expression$Operator" "GREATER" "Lcom/example/kediri/kediri/jpql/Expression$Operator;" (.ref a_GREATER) := Sta.start ev_GREATER (Or.inr ⟨(hw _ (List.mem_of_getElem? (i := 2) rfl)), (hw _ (List.mem_of_getElem? (i := 50) rfl))⟩)
  have O_GREATER : Fld s s.heap a_GREATER "java/lang/Enum" "ordinal" "I" (.int (4 : Int32)) := own_fldI ev_GREATER hN38
  obtain ⟨s_GREATER, es_GREATER⟩ := exa_v hN39
  have Es_GREATER : Exa s s.heap s_GREATER "java/lang/String" := Exa.start es_GREATER hN39
  have Y_GREATER : Fld s s.heap a_GREATER "com/example/kediri/kediri/jpql/Expression$Operator" "symbol" "Ljava/lang/String;" (.ref s_GREATER) := own_fldR ev_GREATER es_GREATER
  have C_GREATER : Fld s s.heap s_GREATER "java/lang/String" "coder" "B" (.int (0 : Int32)) := own_fldI es_GREATER hN40
  obtain ⟨b_GREATER, eb_GREATER⟩ := arr_v hN41
  have W_GREATER : Fld s s.heap s_GREATER "java/lang/String" "value" "[B" (.ref b_GREATER) := own_fldR es_GREATER eb_GREATER
  obtain ⟨cl_GREATER, A_GREATER⟩ := Arr.start eb_GREATER hN41
  have V_GREATER : own_Arr s s.heap b_GREATER .byte ([(62 : Int32)].map Value.int) := own_arrS hfit A_GREATER (own_lenI hN42 eb_GREATER A_GREATER) (by decide) ⟨own_elemI hN43 eb_GREATER A_GREATER (by decide), trivial⟩
  obtain ⟨a_GREATER_EQUALS, ev_GREATER_EQUALS⟩ := exa_v hN30
  have E_GREATER_EQUALS : Exa s s.heap a_GREATER_EQUALS "com/example/kediri/kediri/jpql/Expression$Operator" := Exa.start ev_GREATER_EQUALS hN30
  have S_GREATER_EQUALS : Sta s s.heap "com/example/kediri/kediri/jpql/Expression$Operator" "GREATER_EQUALS" "Lcom/example/kediri/kediri/jpql/Expression$Operator;" (.ref a_GREATER_EQUALS) := Sta.start ev_GREATER_EQUALS (Or.inr ⟨(hw _ (List.mem_of_getElem? (i := 2) rfl)), (hw _ (List.mem_of_getElem? (i := 48) rfl))⟩)
  have O_GREATER_EQUALS : Fld s s.heap a_GREATER_EQUALS "java/lang/Enum" "ordinal" "I" (.int (5 : Int32)) := own_fldI ev_GREATER_EQUALS hN31
  obtain ⟨s_GREATER_EQUALS, es_GREATER_EQUALS⟩ := exa_v hN32
  have Es_GREATER_EQUALS : Exa s s.heap s_GREATER_EQUALS "java/lang/String" := Exa.start es_GREATER_EQUALS hN32
  have Y_GREATER_EQUALS : Fld s s.heap a_GREATER_EQUALS "com/example/kediri/kediri/jpql/Expression$Operator" "symbol" "Ljava/lang/String;" (.ref s_GREATER_EQUALS) := own_fldR ev_GREATER_EQUALS es_GREATER_EQUALS
  have C_GREATER_EQUALS : Fld s s.heap s_GREATER_EQUALS "java/lang/String" "coder" "B" (.int (0 : Int32)) := own_fldI es_GREATER_EQUALS hN33
  obtain ⟨b_GREATER_EQUALS, eb_GREATER_EQUALS⟩ := arr_v hN34
  have W_GREATER_EQUALS : Fld s s.heap s_GREATER_EQUALS "java/lang/String" "value" "[B" (.ref b_GREATER_EQUALS) := own_fldR es_GREATER_EQUALS eb_GREATER_EQUALS
  obtain ⟨cl_GREATER_EQUALS, A_GREATER_EQUALS⟩ := Arr.start eb_GREATER_EQUALS hN34
  have V_GREATER_EQUALS : own_Arr s s.heap b_GREATER_EQUALS .byte ([(62 : Int32), (61 : Int32)].map Value.int) := own_arrS hfit A_GREATER_EQUALS (own_lenI hN35 eb_GREATER_EQUALS A_GREATER_EQUALS) (by decide) ⟨own_elemI hN36 eb_GREATER_EQUALS A_GREATER_EQUALS (by decide), own_elemI hN44 eb_GREATER_EQUALS A_GREATER_EQUALS (by decide), trivial⟩
  obtain ⟨hsets, hown0⟩ := atoms_of _ (rest_1_c_eq ▸ (show rest_1_c.before _ s = true from hrest))
  obtain ⟨cs, ecs⟩ := is_v (Cond.before_iff.mp (hsets _ (List.mem_of_getElem? (i := 1) rfl)))
  have S_cs : Sta s s.heap "java/lang/String" "COMPACT_STRINGS" "Z" (.int cs) := Sta.start ecs (Or.inl (hsets _ (List.mem_of_getElem? (i := 0) rfl)))
  have hcs : ¬ cs = 0 := own_notI ecs (Cond.before_iff.mp (hsets _ (List.mem_of_getElem? (i := 2) rfl)))
  have hEL : EW s _ consts_1 := EW.cons (hw _ (List.mem_of_getElem? (i := 17) rfl)) (by decide) (EW.cons (hw _ (List.mem_of_getElem? (i := 43) rfl)) (by decide) EW.nil)
  have hCH : CHv s consts_1 s.vm s.heap := CHv.start hEL hcalls.1 (hsets _ (List.mem_of_getElem? (i := 2) rfl)) (hw _ (List.mem_of_getElem? (i := 20) rfl)) (hw _ (List.mem_of_getElem? (i := 19) rfl))
  obtain ⟨n, o, h1, h2, h3, _, L, rfl, ⟨rfl, N⟩, hq⟩ := rm0 l s _ hw tables_1 i0 a_EQUALS s_EQUALS b_EQUALS a_NOT_EQUALS s_NOT_EQUALS b_NOT_EQUALS a_LESS s_LESS b_LESS a_LESS_EQUALS s_LESS_EQUALS b_LESS_EQUALS a_GREATER s_GREATER b_GREATER a_GREATER_EQUALS s_GREATER_EQUALS b_GREATER_EQUALS cs s.heap s.heap.size (Nat.le_refl _) E_EQUALS S_EQUALS O_EQUALS Y_EQUALS Es_EQUALS C_EQUALS W_EQUALS V_EQUALS E_NOT_EQUALS S_NOT_EQUALS O_NOT_EQUALS Y_NOT_EQUALS Es_NOT_EQUALS C_NOT_EQUALS W_NOT_EQUALS V_NOT_EQUALS E_LESS S_LESS O_LESS Y_LESS Es_LESS C_LESS W_LESS V_LESS E_LESS_EQUALS S_LESS_EQUALS O_LESS_EQUALS Y_LESS_EQUALS Es_LESS_EQUALS C_LESS_EQUALS W_LESS_EQUALS V_LESS_EQUALS E_GREATER S_GREATER O_GREATER Y_GREATER Es_GREATER C_GREATER W_GREATER V_GREATER E_GREATER_EQUALS S_GREATER_EQUALS O_GREATER_EQUALS Y_GREATER_EQUALS Es_GREATER_EQUALS C_GREATER_EQUALS W_GREATER_EQUALS V_GREATER_EQUALS S_cs hcs hEL p e ha hc hk s m _ below hf ((Spec.applies_iff_loose hf).mp happ).1 ⟨rfl, State.Warmed39.refl s, rfl, hCH⟩ trivial
  refine ⟨n, _, h1, h2, h3, hpost _ _ _ _ _ _ ⟨Cond.after_iff.mpr rfl, Cond.after_iff.mpr (eq_i res_at (Term.int_eval (1)) rfl), trivial⟩ ⟨hq.1, hq.2.1, hq.2.2.1, (hq.2.2.2.sift fun y hy => Or.inr (N y hy)).mono (by decide) (by decide)⟩⟩
theorem main_1_1 : Claimed_1_1 := comes_1 fun _ _ _ _ _ _ h hF => ⟨h.1, hF⟩
theorem main_1_2 : Claimed_1_2 := comes_1 fun _ _ _ _ _ _ h hF => ⟨h.2.1, hF⟩
end Jvm.Pilot.@@N@@
namespace Jvm.Pilot.@@N@@
open Jvm Jvm.ClassFile Sem Op Lib Jvm.Free Jvm.Stand Jvm.Pilot.@@N@@.Jvm.D
/-! MADE BY PROGRAM (witnessworld.py) out of the Statement's table words and the real class files: 18 classes; the members and pool entries that the words name. The judged class is class 1, her method 1. -/
namespace start1
open Jvm.ClassFile
def u (s : String) : CpInfo := .utf8 (stringToUtf16 s)
/-- a pool by its gaps: so many unusable entries, then the entry; so many at the end -/
def gap : Nat → List CpInfo → List CpInfo
  | 0, r => r
  | n + 1, r => .unusable :: gap n r
def poolList (es : List (Nat × CpInfo)) (last : Nat) : List CpInfo := es.foldr (fun e r => gap e.1 (e.2 :: r)) (gap last [])
def pool (es : List (Nat × CpInfo)) (last : Nat) : Array CpInfo := ⟨poolList es last⟩
def fileOf (pool : Array CpInfo) (this : Nat) (attrs : Array Attribute := #[]) (ms : Array MethodInfo := #[]) (fl : Nat := 33) (sup : Nat := 0) (ifs : Array Nat := #[]) (fds : Array FieldInfo := #[]) : ClassFile where
  minorVersion := 0
  majorVersion := 65
  constantPool := pool
  accessFlags := fl
  thisClass := this
  superClass := sup
  interfaces := ifs
  fields := fds
  methods := ms
  attributes := attrs
def plain (name : String) (sup : Option ClassId) : Class where
  name := name
  kind := .ordinary
  loader := none
  accessFlags := 33
  super := sup
  interfaces := #[]
  cf := none
  fields := #[]
  methods := #[]
  instanceTypes := #[]
  staticTypes := #[]
  resolved := #[]
  callSites := []
  init := .initialized
  statics := none
  mirror := none

def pool0 : Array CpInfo := pool [(5, u "<init>"), (0, u "()V"), (1, .class_ 10), (1, u "java/lang/Object")] 113

def k0m0 : Method := { name := "<init>", desc := "()V", sig := { parameters := [], returnType := none }, accessFlags := 1, code := none }
/-- java/lang/Object -/
def k0 : Class := { plain "java/lang/Object" none with
  accessFlags := 33
  interfaces := #[]
  cf := some (fileOf pool0 8 #[] #[{ accessFlags := 1, nameIndex := 5, descriptorIndex := 6, attributes := #[] }] 33 0 #[] #[])
  fields := #[]
  methods := #[k0m0]
  instanceTypes := #[]
  staticTypes := #[]
  resolved := Array.replicate 124 none
  statics := none }

def pool1 : Array CpInfo := pool [(2, .class_ 4), (1, u "java/lang/Object"), (0, u "<init>"), (0, u "()V"), (0, .integer 2147483647), (0, .fieldref 9 10), (0, .class_ 11), (0, .nameAndType 12 13), (0, u "com/example/kediri/kediri/jpql/Expression$Operator"), (0, u "EQUALS"), (0, u "Lcom/example/kediri/kediri/jpql/Expression$Operator;"), (0, .fieldref 9 15), (0, .nameAndType 16 13), (0, u "NOT_EQUALS"), (0, .fieldref 9 18), (0, .nameAndType 19 13), (0, u "LESS"), (0, .fieldref 9 21), (0, .nameAndType 22 13), (0, u "LESS_EQUALS"), (0, .fieldref 9 24), (0, .nameAndType 25 13), (0, u "GREATER"), (0, .fieldref 9 27), (0, .nameAndType 28 13), (0, u "GREATER_EQUALS"), (0, .methodref 9 30), (0, .nameAndType 31 32), (0, u "isEquality"), (0, u "()Z"), (0, .methodref 9 34), (0, .nameAndType 35 36), (0, u "symbol"), (0, u "()Ljava/lang/String;"), (0, .string 38), (0, u "="), (0, .methodref 40 41), (0, .class_ 42), (0, .nameAndType 43 44), (0, u "java/lang/String"), (0, u "equals"), (0, u "(Ljava/lang/Object;)Z"), (0, .string 46), (0, u "<>"), (0, .class_ 48), (0, u "com/example/kediri/kediri/jpql/OperatorIsEqualityPinLaw"), (2, u "law"), (0, u "(I)Z")] 7

def k1m0 : Method := { name := "<init>", desc := "()V", sig := { parameters := [], returnType := none }, accessFlags := 1, code := none }
def k1c1 : Code := { maxStack := 2, maxLocals := 7, code := code, exceptionTable := #[], attributes := #[] }
def k1m1 : Method := { name := "law", desc := "(I)Z", sig := { parameters := [.int], returnType := some .boolean }, accessFlags := 9, code := some k1c1 }
/-- com/example/kediri/kediri/jpql/OperatorIsEqualityPinLaw -/
def k1 : Class := { plain "com/example/kediri/kediri/jpql/OperatorIsEqualityPinLaw" (some 0) with
  accessFlags := 49
  interfaces := #[]
  cf := some (fileOf pool1 47 #[] #[{ accessFlags := 1, nameIndex := 5, descriptorIndex := 6, attributes := #[] }, { accessFlags := 9, nameIndex := 51, descriptorIndex := 52, attributes := #[] }] 49 2 #[] #[])
  fields := #[]
  methods := #[k1m0, k1m1]
  instanceTypes := #[]
  staticTypes := #[]
  resolved := Array.replicate 60 none
  statics := none }

def pool2 : Array CpInfo := pool [(1, .class_ 2), (0, u "java/lang/constant/Constable"), (0, .class_ 4), (0, u "java/lang/Object")] 6

/-- java/lang/constant/Constable -/
def k2 : Class := { plain "java/lang/constant/Constable" (some 0) with
  accessFlags := 1537
  interfaces := #[]
  cf := some (fileOf pool2 1 #[] #[] 1537 3 #[] #[])
  fields := #[]
  methods := #[]
  instanceTypes := #[]
  staticTypes := #[]
  resolved := Array.replicate 11 none
  statics := none }

def pool3 : Array CpInfo := pool [(1, .class_ 2), (0, u "java/lang/Comparable"), (0, .class_ 4), (0, u "java/lang/Object")] 7

/-- java/lang/Comparable -/
def k3 : Class := { plain "java/lang/Comparable" (some 0) with
  accessFlags := 1537
  interfaces := #[]
  cf := some (fileOf pool3 1 #[] #[] 1537 3 #[] #[])
  fields := #[]
  methods := #[]
  instanceTypes := #[]
  staticTypes := #[]
  resolved := Array.replicate 12 none
  statics := none }

def pool4 : Array CpInfo := pool [(1, .class_ 2), (0, u "java/io/Serializable"), (0, .class_ 4), (0, u "java/lang/Object")] 2

/-- java/io/Serializable -/
def k4 : Class := { plain "java/io/Serializable" (some 0) with
  accessFlags := 1537
  interfaces := #[]
  cf := some (fileOf pool4 1 #[] #[] 1537 3 #[] #[])
  fields := #[]
  methods := #[]
  instanceTypes := #[]
  staticTypes := #[]
  resolved := Array.replicate 7 none
  statics := none }

def pool5 : Array CpInfo := pool [(2, .class_ 4), (1, u "java/lang/Enum"), (0, u "name"), (0, u "Ljava/lang/String;"), (2, u "ordinal"), (0, u "I"), (1, .class_ 14), (1, u "java/lang/Object"), (4, u "hash"), (86, .class_ 108), (1, u "java/lang/Enum$EnumDesc"), (2, .class_ 112), (0, u "java/lang/constant/Constable"), (0, .class_ 114), (0, u "java/lang/Comparable"), (0, .class_ 116), (0, u "java/io/Serializable")] 87

/-- java/lang/Enum -/
def k5 : Class := { plain "java/lang/Enum" (some 0) with
  accessFlags := 1057
  interfaces := #[2, 3, 4]
  cf := some (fileOf pool5 2 #[.nestMembers #[106]] #[] 1057 12 #[111, 113, 115] #[{ accessFlags := 18, nameIndex := 5, descriptorIndex := 6, attributes := #[] }, { accessFlags := 18, nameIndex := 9, descriptorIndex := 10, attributes := #[] }, { accessFlags := 2, nameIndex := 19, descriptorIndex := 10, attributes := #[] }])
  fields := #[{ name := "name", type := (.object "java/lang/String"), accessFlags := 18, slot := 0, constantValue := 0 }, { name := "ordinal", type := .int, accessFlags := 18, slot := 1, constantValue := 0 }, { name := "hash", type := .int, accessFlags := 2, slot := 2, constantValue := 0 }]
  methods := #[]
  instanceTypes := #[(.object "java/lang/String"), .int, .int]
  staticTypes := #[]
  resolved := Array.replicate 204 none
  statics := none }

def pool6 : Array CpInfo := pool [(1, .class_ 2), (0, u "com/example/kediri/kediri/jpql/Expression$Operator"), (0, .fieldref 1 4), (0, .nameAndType 5 6), (0, u "EQUALS"), (0, u "Lcom/example/kediri/kediri/jpql/Expression$Operator;"), (0, .fieldref 1 8), (0, .nameAndType 9 6), (0, u "NOT_EQUALS"), (2, u "LESS"), (2, u "LESS_EQUALS"), (2, u "GREATER"), (2, u "GREATER_EQUALS"), (2, u "$VALUES"), (0, u "[Lcom/example/kediri/kediri/jpql/Expression$Operator;"), (6, .class_ 34), (1, u "java/lang/Enum"), (6, .fieldref 1 42), (0, .nameAndType 43 44), (0, u "symbol"), (0, u "Ljava/lang/String;"), (32, u "()Ljava/lang/String;"), (0, u "isEquality"), (0, u "()Z"), (7, .class_ 88), (0, u "com/example/kediri/kediri/jpql/Expression")] 2

def k6c0 : Code := { maxStack := 1, maxLocals := 1, code := prog_42_method_4_code, exceptionTable := #[], attributes := #[] }
def k6m0 : Method := { name := "symbol", desc := "()Ljava/lang/String;", sig := { parameters := [], returnType := some (.object "java/lang/String") }, accessFlags := 0, code := some k6c0 }
def k6c1 : Code := { maxStack := 2, maxLocals := 1, code := prog_42_method_5_code, exceptionTable := #[], attributes := #[] }
def k6m1 : Method := { name := "isEquality", desc := "()Z", sig := { parameters := [], returnType := some .boolean }, accessFlags := 0, code := some k6c1 }
/-- com/example/kediri/kediri/jpql/Expression$Operator -/
def k6 : Class := { plain "com/example/kediri/kediri/jpql/Expression$Operator" (some 5) with
  accessFlags := 16433
  interfaces := #[]
  cf := some (fileOf pool6 1 #[.nestHost 87] #[{ accessFlags := 0, nameIndex := 43, descriptorIndex := 77, attributes := #[] }, { accessFlags := 0, nameIndex := 78, descriptorIndex := 79, attributes := #[] }] 16433 32 #[] #[{ accessFlags := 16409, nameIndex := 5, descriptorIndex := 6, attributes := #[] }, { accessFlags := 16409, nameIndex := 9, descriptorIndex := 6, attributes := #[] }, { accessFlags := 16409, nameIndex := 12, descriptorIndex := 6, attributes := #[] }, { accessFlags := 16409, nameIndex := 15, descriptorIndex := 6, attributes := #[] }, { accessFlags := 16409, nameIndex := 18, descriptorIndex := 6, attributes := #[] }, { accessFlags := 16409, nameIndex := 21, descriptorIndex := 6, attributes := #[] }, { accessFlags := 18, nameIndex := 43, descriptorIndex := 44, attributes := #[] }, { accessFlags := 4122, nameIndex := 24, descriptorIndex := 25, attributes := #[] }])
  fields := #[{ name := "EQUALS", type := (.object "com/example/kediri/kediri/jpql/Expression$Operator"), accessFlags := 16409, slot := 0, constantValue := 0 }, { name := "NOT_EQUALS", type := (.object "com/example/kediri/kediri/jpql/Expression$Operator"), accessFlags := 16409, slot := 1, constantValue := 0 }, { name := "LESS", type := (.object "com/example/kediri/kediri/jpql/Expression$Operator"), accessFlags := 16409, slot := 2, constantValue := 0 }, { name := "LESS_EQUALS", type := (.object "com/example/kediri/kediri/jpql/Expression$Operator"), accessFlags := 16409, slot := 3, constantValue := 0 }, { name := "GREATER", type := (.object "com/example/kediri/kediri/jpql/Expression$Operator"), accessFlags := 16409, slot := 4, constantValue := 0 }, { name := "GREATER_EQUALS", type := (.object "com/example/kediri/kediri/jpql/Expression$Operator"), accessFlags := 16409, slot := 5, constantValue := 0 }, { name := "symbol", type := (.object "java/lang/String"), accessFlags := 18, slot := 3, constantValue := 0 }, { name := "$VALUES", type := (.array (.object "com/example/kediri/kediri/jpql/Expression$Operator")), accessFlags := 4122, slot := 6, constantValue := 0 }]
  methods := #[k6m0, k6m1]
  instanceTypes := #[(.object "java/lang/String"), .int, .int, (.object "java/lang/String")]
  staticTypes := #[(.object "com/example/kediri/kediri/jpql/Expression$Operator"), (.object "com/example/kediri/kediri/jpql/Expression$Operator"), (.object "com/example/kediri/kediri/jpql/Expression$Operator"), (.object "com/example/kediri/kediri/jpql/Expression$Operator"), (.object "com/example/kediri/kediri/jpql/Expression$Operator"), (.object "com/example/kediri/kediri/jpql/Expression$Operator"), (.array (.object "com/example/kediri/kediri/jpql/Expression$Operator"))]
  resolved := Array.replicate 91 none
  statics := some 0 }

def pool7 : Array CpInfo := pool [(2, .class_ 4), (1, u "java/lang/CharSequence"), (42, .class_ 48), (0, u "java/lang/CharSequence$1CodePointIterator"), (10, .class_ 60), (0, u "java/lang/CharSequence$1CharIterator"), (5, .class_ 67), (0, u "java/lang/Object")] 63

/-- java/lang/CharSequence -/
def k7 : Class := { plain "java/lang/CharSequence" (some 0) with
  accessFlags := 1537
  interfaces := #[]
  cf := some (fileOf pool7 2 #[.nestMembers #[47, 59]] #[] 1537 66 #[] #[])
  fields := #[]
  methods := #[]
  instanceTypes := #[]
  staticTypes := #[]
  resolved := Array.replicate 131 none
  statics := none }

def pool8 : Array CpInfo := pool [(1, .class_ 2), (0, u "java/lang/constant/ConstantDesc"), (0, .class_ 4), (0, u "java/lang/Object")] 32

/-- java/lang/constant/ConstantDesc -/
def k8 : Class := { plain "java/lang/constant/ConstantDesc" (some 0) with
  accessFlags := 1537
  interfaces := #[]
  cf := some (fileOf pool8 1 #[] #[] 1537 3 #[] #[])
  fields := #[]
  methods := #[]
  instanceTypes := #[]
  staticTypes := #[]
  resolved := Array.replicate 37 none
  statics := none }

def pool9 : Array CpInfo := pool [(2, .class_ 4), (1, u "java/lang/Object"), (0, u "<init>"), (0, u "()V"), (2, .fieldref 10 11), (0, .class_ 12), (0, .nameAndType 13 14), (0, u "java/lang/String"), (0, u "value"), (0, u "[B"), (0, .fieldref 10 16), (0, .nameAndType 17 18), (0, u "coder"), (0, u "B"), (2, u "hash"), (0, u "I"), (2, u "hashIsZero"), (0, u "Z"), (11, .fieldref 10 39), (0, .nameAndType 40 26), (0, u "COMPACT_STRINGS"), (66, .class_ 109), (1, u "java/lang/StringLatin1"), (431, .methodref 107 542), (0, .nameAndType 543 544), (0, u "equals"), (0, u "([B[B)Z"), (28, u "(Ljava/lang/Object;)Z"), (1, .class_ 576), (0, u "java/lang/CharSequence"), (22, u "CASE_INSENSITIVE_ORDER"), (0, u "Ljava/util/Comparator;"), (500, u "serialPersistentFields"), (0, u "[Ljava/io/ObjectStreamField;"), (0, .class_ 1104), (0, u "java/lang/String$CaseInsensitiveComparator"), (1, .class_ 1107), (0, u "java/io/Serializable"), (0, .class_ 1109), (0, u "java/lang/Comparable"), (0, .class_ 1111), (0, u "java/lang/constant/Constable"), (0, .class_ 1113), (0, u "java/lang/constant/ConstantDesc"), (2, u "serialVersionUID"), (0, u "J"), (3, u "REPL"), (0, u "C"), (2, u "LATIN1"), (1, u "UTF16")] 323

def k9m0 : Method := { name := "<init>", desc := "()V", sig := { parameters := [], returnType := none }, accessFlags := 1, code := none }
def k9c1 : Code := { maxStack := 2, maxLocals := 3, code := jdk_42_method_66_code, exceptionTable := #[], attributes := #[] }
def k9m1 : Method := { name := "equals", desc := "(Ljava/lang/Object;)Z", sig := { parameters := [(.object "java/lang/Object")], returnType := some .boolean }, accessFlags := 1, code := some k9c1 }
/-- java/lang/String -/
def k9 : Class := { plain "java/lang/String" (some 0) with
  accessFlags := 49
  interfaces := #[4, 3, 7, 2, 8]
  cf := some (fileOf pool9 10 #[.nestMembers #[1103]] #[{ accessFlags := 1, nameIndex := 5, descriptorIndex := 6, attributes := #[] }, { accessFlags := 1, nameIndex := 543, descriptorIndex := 573, attributes := #[] }] 49 2 #[1106, 1108, 575, 1110, 1112] #[{ accessFlags := 18, nameIndex := 13, descriptorIndex := 14, attributes := #[] }, { accessFlags := 18, nameIndex := 17, descriptorIndex := 18, attributes := #[] }, { accessFlags := 2, nameIndex := 21, descriptorIndex := 22, attributes := #[] }, { accessFlags := 2, nameIndex := 25, descriptorIndex := 26, attributes := #[] }, { accessFlags := 26, nameIndex := 1116, descriptorIndex := 1117, attributes := #[] }, { accessFlags := 24, nameIndex := 40, descriptorIndex := 26, attributes := #[] }, { accessFlags := 26, nameIndex := 1101, descriptorIndex := 1102, attributes := #[] }, { accessFlags := 26, nameIndex := 1121, descriptorIndex := 1122, attributes := #[] }, { accessFlags := 25, nameIndex := 599, descriptorIndex := 600, attributes := #[] }, { accessFlags := 24, nameIndex := 1125, descriptorIndex := 18, attributes := #[] }, { accessFlags := 24, nameIndex := 1127, descriptorIndex := 18, attributes := #[] }])
  fields := #[{ name := "value", type := (.array .byte), accessFlags := 18, slot := 0, constantValue := 0 }, { name := "coder", type := .byte, accessFlags := 18, slot := 1, constantValue := 0 }, { name := "hash", type := .int, accessFlags := 2, slot := 2, constantValue := 0 }, { name := "hashIsZero", type := .boolean, accessFlags := 2, slot := 3, constantValue := 0 }, { name := "serialVersionUID", type := .long, accessFlags := 26, slot := 0, constantValue := 0 }, { name := "COMPACT_STRINGS", type := .boolean, accessFlags := 24, slot := 1, constantValue := 0 }, { name := "serialPersistentFields", type := (.array (.object "java/io/ObjectStreamField")), accessFlags := 26, slot := 2, constantValue := 0 }, { name := "REPL", type := .char, accessFlags := 26, slot := 3, constantValue := 0 }, { name := "CASE_INSENSITIVE_ORDER", type := (.object "java/util/Comparator"), accessFlags := 25, slot := 4, constantValue := 0 }, { name := "LATIN1", type := .byte, accessFlags := 24, slot := 5, constantValue := 0 }, { name := "UTF16", type := .byte, accessFlags := 24, slot := 6, constantValue := 0 }]
  methods := #[k9m0, k9m1]
  instanceTypes := #[(.array .byte), .byte, .int, .boolean]
  staticTypes := #[.long, .boolean, (.array (.object "java/io/ObjectStreamField")), .char, (.object "java/util/Comparator"), .byte, .byte]
  resolved := Array.replicate 1451 none
  statics := some 1 }

def pool10 : Array CpInfo := pool [(4, .class_ 6), (1, u "java/lang/Object"), (0, u "<init>"), (0, u "()V"), (5, .class_ 16), (1, u "java/lang/StringLatin1"), (104, u "$assertionsDisabled"), (0, u "Z"), (98, .class_ 223), (1, u "java/lang/StringLatin1$LinesSpliterator"), (57, u "equals"), (0, u "([B[B)Z"), (107, .class_ 391), (0, u "java/lang/StringLatin1$CharsSpliterator")] 3

def k10m0 : Method := { name := "<init>", desc := "()V", sig := { parameters := [], returnType := none }, accessFlags := 0, code := none }
def k10c1 : Code := { maxStack := 3, maxLocals := 3, code := jdk_43_method_13_code, exceptionTable := #[], attributes := #[] }
def k10m1 : Method := { name := "equals", desc := "([B[B)Z", sig := { parameters := [(.array .byte), (.array .byte)], returnType := some .boolean }, accessFlags := 9, code := some k10c1 }
/-- java/lang/StringLatin1 -/
def k10 : Class := { plain "java/lang/StringLatin1" (some 0) with
  accessFlags := 48
  interfaces := #[]
  cf := some (fileOf pool10 14 #[.nestMembers #[390, 221]] #[{ accessFlags := 0, nameIndex := 7, descriptorIndex := 8, attributes := #[] }, { accessFlags := 9, nameIndex := 281, descriptorIndex := 282, attributes := #[] }] 48 4 #[] #[{ accessFlags := 4120, nameIndex := 121, descriptorIndex := 122, attributes := #[] }])
  fields := #[{ name := "$assertionsDisabled", type := .boolean, accessFlags := 4120, slot := 0, constantValue := 0 }]
  methods := #[k10m0, k10m1]
  instanceTypes := #[]
  staticTypes := #[.boolean]
  resolved := Array.replicate 395 none
  statics := none }

def pool11 : Array CpInfo := pool [(2, .class_ 4), (1, u "java/lang/Object"), (0, u "<init>"), (0, u "()V"), (17, .class_ 26), (1, u "jdk/internal/util/Preconditions"), (28, .class_ 56), (0, u "jdk/internal/util/Preconditions$4"), (57, .class_ 115), (0, u "jdk/internal/util/Preconditions$1"), (7, u "SIOOBE_FORMATTER"), (0, u "Ljava/util/function/BiFunction;"), (0, .class_ 126), (0, u "jdk/internal/util/Preconditions$2"), (3, u "AIOOBE_FORMATTER"), (0, .class_ 132), (0, u "jdk/internal/util/Preconditions$3"), (3, u "IOOBE_FORMATTER")] 57

def k11m0 : Method := { name := "<init>", desc := "()V", sig := { parameters := [], returnType := none }, accessFlags := 1, code := none }
/-- jdk/internal/util/Preconditions -/
def k11 : Class := { plain "jdk/internal/util/Preconditions" (some 0) with
  accessFlags := 33
  interfaces := #[]
  cf := some (fileOf pool11 24 #[.nestMembers #[55, 131, 125, 114]] #[{ accessFlags := 1, nameIndex := 5, descriptorIndex := 6, attributes := #[] }] 33 2 #[] #[{ accessFlags := 25, nameIndex := 123, descriptorIndex := 124, attributes := #[] }, { accessFlags := 25, nameIndex := 130, descriptorIndex := 124, attributes := #[] }, { accessFlags := 25, nameIndex := 136, descriptorIndex := 124, attributes := #[] }])
  fields := #[{ name := "SIOOBE_FORMATTER", type := (.object "java/util/function/BiFunction"), accessFlags := 25, slot := 0, constantValue := 0 }, { name := "AIOOBE_FORMATTER", type := (.object "java/util/function/BiFunction"), accessFlags := 25, slot := 1, constantValue := 0 }, { name := "IOOBE_FORMATTER", type := (.object "java/util/function/BiFunction"), accessFlags := 25, slot := 2, constantValue := 0 }]
  methods := #[k11m0]
  instanceTypes := #[]
  staticTypes := #[(.object "java/util/function/BiFunction"), (.object "java/util/function/BiFunction"), (.object "java/util/function/BiFunction")]
  resolved := Array.replicate 194 none
  statics := some 2 }

def pool12 : Array CpInfo := pool [(9, u "<init>"), (6, .class_ 18), (1, u "java/lang/Object"), (0, u "()V"), (1, .class_ 23), (1, u "jdk/internal/util/ArraysSupport"), (0, u "LOG2_ARRAY_LONG_INDEX_SCALE"), (0, u "I"), (2, u "U"), (0, u "Ljdk/internal/misc/Unsafe;"), (8, u "BIG_ENDIAN"), (0, u "Z"), (8, u "LOG2_BYTE_BIT_SIZE"), (4, u "LOG2_ARRAY_INT_INDEX_SCALE"), (54, u "JLA"), (0, u "Ljdk/internal/access/JavaLangAccess;"), (11, u "LOG2_ARRAY_BOOLEAN_INDEX_SCALE"), (9, u "LOG2_ARRAY_BYTE_INDEX_SCALE"), (5, u "LOG2_ARRAY_CHAR_INDEX_SCALE"), (5, u "LOG2_ARRAY_SHORT_INDEX_SCALE"), (18, u "LOG2_ARRAY_FLOAT_INDEX_SCALE"), (24, u "LOG2_ARRAY_DOUBLE_INDEX_SCALE"), (89, u "T_BOOLEAN"), (2, u "T_CHAR"), (1, u "T_FLOAT"), (1, u "T_DOUBLE"), (1, u "T_BYTE"), (1, u "T_SHORT"), (1, u "T_INT"), (1, u "T_LONG"), (1, u "SOFT_MAX_ARRAY_LENGTH")] 83

def k12m0 : Method := { name := "<init>", desc := "()V", sig := { parameters := [], returnType := none }, accessFlags := 2, code := none }
/-- jdk/internal/util/ArraysSupport -/
def k12 : Class := { plain "jdk/internal/util/ArraysSupport" (some 0) with
  accessFlags := 33
  interfaces := #[]
  cf := some (fileOf pool12 21 #[] #[{ accessFlags := 2, nameIndex := 9, descriptorIndex := 19, attributes := #[] }] 33 16 #[] #[{ accessFlags := 24, nameIndex := 28, descriptorIndex := 29, attributes := #[] }, { accessFlags := 26, nameIndex := 38, descriptorIndex := 39, attributes := #[] }, { accessFlags := 25, nameIndex := 121, descriptorIndex := 25, attributes := #[] }, { accessFlags := 25, nameIndex := 131, descriptorIndex := 25, attributes := #[] }, { accessFlags := 25, nameIndex := 137, descriptorIndex := 25, attributes := #[] }, { accessFlags := 25, nameIndex := 143, descriptorIndex := 25, attributes := #[] }, { accessFlags := 25, nameIndex := 53, descriptorIndex := 25, attributes := #[] }, { accessFlags := 25, nameIndex := 24, descriptorIndex := 25, attributes := #[] }, { accessFlags := 25, nameIndex := 162, descriptorIndex := 25, attributes := #[] }, { accessFlags := 25, nameIndex := 187, descriptorIndex := 25, attributes := #[] }, { accessFlags := 26, nameIndex := 48, descriptorIndex := 25, attributes := #[] }, { accessFlags := 25, nameIndex := 277, descriptorIndex := 25, attributes := #[] }, { accessFlags := 25, nameIndex := 280, descriptorIndex := 25, attributes := #[] }, { accessFlags := 25, nameIndex := 282, descriptorIndex := 25, attributes := #[] }, { accessFlags := 25, nameIndex := 284, descriptorIndex := 25, attributes := #[] }, { accessFlags := 25, nameIndex := 286, descriptorIndex := 25, attributes := #[] }, { accessFlags := 25, nameIndex := 288, descriptorIndex := 25, attributes := #[] }, { accessFlags := 25, nameIndex := 290, descriptorIndex := 25, attributes := #[] }, { accessFlags := 25, nameIndex := 292, descriptorIndex := 25, attributes := #[] }, { accessFlags := 26, nameIndex := 108, descriptorIndex := 109, attributes := #[] }, { accessFlags := 25, nameIndex := 294, descriptorIndex := 25, attributes := #[] }])
  fields := #[{ name := "U", type := (.object "jdk/internal/misc/Unsafe"), accessFlags := 24, slot := 0, constantValue := 0 }, { name := "BIG_ENDIAN", type := .boolean, accessFlags := 26, slot := 1, constantValue := 0 }, { name := "LOG2_ARRAY_BOOLEAN_INDEX_SCALE", type := .int, accessFlags := 25, slot := 2, constantValue := 0 }, { name := "LOG2_ARRAY_BYTE_INDEX_SCALE", type := .int, accessFlags := 25, slot := 3, constantValue := 0 }, { name := "LOG2_ARRAY_CHAR_INDEX_SCALE", type := .int, accessFlags := 25, slot := 4, constantValue := 0 }, { name := "LOG2_ARRAY_SHORT_INDEX_SCALE", type := .int, accessFlags := 25, slot := 5, constantValue := 0 }, { name := "LOG2_ARRAY_INT_INDEX_SCALE", type := .int, accessFlags := 25, slot := 6, constantValue := 0 }, { name := "LOG2_ARRAY_LONG_INDEX_SCALE", type := .int, accessFlags := 25, slot := 7, constantValue := 0 }, { name := "LOG2_ARRAY_FLOAT_INDEX_SCALE", type := .int, accessFlags := 25, slot := 8, constantValue := 0 }, { name := "LOG2_ARRAY_DOUBLE_INDEX_SCALE", type := .int, accessFlags := 25, slot := 9, constantValue := 0 }, { name := "LOG2_BYTE_BIT_SIZE", type := .int, accessFlags := 26, slot := 10, constantValue := 0 }, { name := "T_BOOLEAN", type := .int, accessFlags := 25, slot := 11, constantValue := 0 }, { name := "T_CHAR", type := .int, accessFlags := 25, slot := 12, constantValue := 0 }, { name := "T_FLOAT", type := .int, accessFlags := 25, slot := 13, constantValue := 0 }, { name := "T_DOUBLE", type := .int, accessFlags := 25, slot := 14, constantValue := 0 }, { name := "T_BYTE", type := .int, accessFlags := 25, slot := 15, constantValue := 0 }, { name := "T_SHORT", type := .int, accessFlags := 25, slot := 16, constantValue := 0 }, { name := "T_INT", type := .int, accessFlags := 25, slot := 17, constantValue := 0 }, { name := "T_LONG", type := .int, accessFlags := 25, slot := 18, constantValue := 0 }, { name := "JLA", type := (.object "jdk/internal/access/JavaLangAccess"), accessFlags := 26, slot := 19, constantValue := 0 }, { name := "SOFT_MAX_ARRAY_LENGTH", type := .int, accessFlags := 25, slot := 20, constantValue := 0 }]
  methods := #[k12m0]
  instanceTypes := #[]
  staticTypes := #[(.object "jdk/internal/misc/Unsafe"), .boolean, .int, .int, .int, .int, .int, .int, .int, .int, .int, .int, .int, .int, .int, .int, .int, .int, .int, (.object "jdk/internal/access/JavaLangAccess"), .int]
  resolved := Array.replicate 378 none
  statics := none }

def pool13 : Array CpInfo := pool [(1, u "java/lang/Cloneable"), (0, .class_ 1), (0, u "java/lang/Object"), (0, .class_ 3)] 3

/-- java/lang/Cloneable -/
def k13 : Class := { plain "java/lang/Cloneable" (some 0) with
  accessFlags := 1537
  interfaces := #[]
  cf := some (fileOf pool13 2 #[] #[] 1537 4 #[] #[])
  fields := #[]
  methods := #[]
  instanceTypes := #[]
  staticTypes := #[]
  resolved := Array.replicate 8 none
  statics := none }

/-- the primitive byte -/
def k14 : Class := { plain "byte" none with kind := .primitive 'B', accessFlags := 0x411 }
/-- [B -/
def k15 : Class := { plain "[B" (some 0) with kind := .array 14 .byte, interfaces := #[13, 4], accessFlags := 1041 }

/-- the primitive int -/
def k16 : Class := { plain "int" none with kind := .primitive 'I', accessFlags := 0x411 }
/-- [I -/
def k17 : Class := { plain "[I" (some 0) with kind := .array 16 .int, interfaces := #[13, 4], accessFlags := 1041 }

def heap : Heap := #[{ cls := 6, slots := #[.ref 5, .ref 8, .ref 11, .ref 14, .ref 17, .ref 20, .null], vm := .statics 6 },
  { cls := 9, slots := #[.long 0, .int 1, .null, .int 0, .null, .int 0, .int 0], vm := .statics 9 },
  { cls := 11, slots := #[.null, .null, .null], vm := .statics 11 },
  { cls := 15, slots := #[.int 61], vm := .none },
  { cls := 9, slots := #[.ref 3, .int 0, .int 0, .int 0], vm := .none },
  { cls := 6, slots := #[.null, .int 0, .int 0, .ref 4], vm := .none },
  { cls := 15, slots := #[.int 60, .int 62], vm := .none },
  { cls := 9, slots := #[.ref 6, .int 0, .int 0, .int 0], vm := .none },
  { cls := 6, slots := #[.null, .int 1, .int 0, .ref 7], vm := .none },
  { cls := 15, slots := #[.int 60], vm := .none },
  { cls := 9, slots := #[.ref 9, .int 0, .int 0, .int 0], vm := .none },
  { cls := 6, slots := #[.null, .int 2, .int 0, .ref 10], vm := .none },
  { cls := 15, slots := #[.int 60, .int 61], vm := .none },
  { cls := 9, slots := #[.ref 12, .int 0, .int 0, .int 0], vm := .none },
  { cls := 6, slots := #[.null, .int 3, .int 0, .ref 13], vm := .none },
  { cls := 15, slots := #[.int 62], vm := .none },
  { cls := 9, slots := #[.ref 15, .int 0, .int 0, .int 0], vm := .none },
  { cls := 6, slots := #[.null, .int 4, .int 0, .ref 16], vm := .none },
  { cls := 15, slots := #[.int 62, .int 61], vm := .none },
  { cls := 9, slots := #[.ref 18, .int 0, .int 0, .int 0], vm := .none },
  { cls := 6, slots := #[.null, .int 5, .int 0, .ref 19], vm := .none }]
def classes : Array Class := #[k0, k1, k2, k3, k4, k5, k6, k7, k8, k9, k10, k11, k12, k13, k14, k15, k16, k17]
def interned : List (Array UInt16 × Addr) := []
def slotsUsed : Nat := 74
def theMethod : MethodId := ⟨1, 1⟩
def args0 : Array Value := #[.int 5]
def aboutOver (below : List Frame) : State where
  vm := { classes := classes, interned := interned.toArray }
  heap := heap
  slotsUsed := slotsUsed
  threads := #[{ frames := .invoking theMethod args0 :: below }]
def below0 : List Frame := [.native { method := ⟨0, 0⟩, args := #[] }]
def about1 : State := aboutOver below0
def p0 : Program := .bare "" "" ""
def e0 : Env := launch0.env 0 0 0
theorem w_frames : about1.frames = Frame.invoking theMethod args0 :: below0 := rfl
set_option maxRecDepth 65536 in
theorem w_args : argsFit about1.vm theMethod args0 = true := by decide +kernel
set_option maxRecDepth 65536 in
theorem w_heap : heapFits about1 = true := by decide +kernel
set_option maxRecDepth 65536 in
theorem w_runnable : about1.curStatus? = some .runnable := by decide +kernel
set_option maxRecDepth 65536 in
theorem w_alone : about1.alone = true := by decide +kernel
set_option maxRecDepth 65536 in
theorem w_named : about1.methodNamed? x = some theMethod := by decide +kernel
set_option maxRecDepth 65536 in
theorem w_hears : about1.hears theMethod below0 = true := by decide +kernel
set_option maxRecDepth 65536 in
theorem w_ripe : about1.ripe theMethod args0 below0 = true := by decide +kernel
theorem w_running : about1.status = .running := rfl
set_option maxRecDepth 65536 in
theorem w_room : about1.hasRoom e0.platform room_1 = true :=
  launch0.hasRoom_least _ room_1 (by decide +kernel) (by decide +kernel) (by decide +kernel) (by decide +kernel) (by decide +kernel) (by decide +kernel)
theorem allAtoms_all (ts : List Jvm.Cond) (a : Array Jvm.Value) (st : Jvm.State) : (allAtoms ts).before a st = ts.all (fun c => c.before a st) := by
  induction ts with
  | nil => rfl
  | cons c t ih =>
    show (Jvm.Cond.and c (allAtoms t)).before a st = _
    rw [Jvm.Cond.before_and, ih, List.all_cons]
def words1 : List Jvm.Cond := Jvm.Cond.code x code maxLocals ret :: tables_1
/-- a 'code' word, met by the world's own term for the bytes: nothing is compared byte by byte -/
theorem code_word {y : MethodName} {bytes : ByteArray} {mx : Nat} {rt : Option FieldType} {a : Array Value} {s : State} {m : MethodId} {meth : Method} {c : Code} (h1 : s.methodNamed? y = some m) (h2 : s.vm.method? m = some meth) (h3 : meth.code = some c) (h4 : c.code = bytes)
    (h5 : (c.maxLocals == mx && c.exceptionTable.isEmpty && decide (c.maxStack ≤ mostOperands) && decide (meth.sig.returnType = rt) && !meth.locks && decide (parseMethodDescriptor y.desc = some meth.sig)) = true) : (Jvm.Cond.code y bytes mx rt).before a s = true := by
  simp only [Bool.and_eq_true, beq_iff_eq, Bool.not_eq_true', decide_eq_true_eq] at h5
  obtain ⟨⟨⟨⟨⟨g1, g2⟩, g3⟩, g4⟩, g5⟩, g6⟩ := h5
  simp [Cond.before, Cond.holds, Cond.value, h1, h2, h3, h4, g1, g2, g3, g4, g5, g6]
def isCode : Jvm.Cond → Bool
  | .code _ _ _ _ => true
  | _ => false
theorem all_split {L : List Jvm.Cond} {P : Jvm.Cond → Bool} (h1 : L.all (fun c => isCode c || P c) = true) (h2 : ∀ c ∈ L.filter isCode, P c = true) : L.all P = true := by
  refine List.all_eq_true.mpr fun c hc => ?_
  have h := List.all_eq_true.mp h1 c hc
  rcases Bool.eq_false_or_eq_true (isCode c) with hi | hi
  · exact h2 c (List.mem_filter.mpr ⟨hc, hi⟩)
  · simpa [hi] using h
set_option maxRecDepth 65536 in
theorem w_c0 : (Jvm.Cond.code x code maxLocals ret).before args0 about1 = true := code_word (m := ⟨1, 1⟩) (meth := k1m1) (c := k1c1) (by decide +kernel) rfl rfl rfl (by decide +kernel)
set_option maxRecDepth 65536 in
theorem w_c1 : (Jvm.Cond.code ({ cls := "com/example/kediri/kediri/jpql/Expression$Operator", name := "isEquality", desc := "()Z" } : Jvm.MethodName) prog_42_method_5_code (1 : Nat) (Option.some Jvm.ClassFile.FieldType.boolean)).before args0 about1 = true := code_word (m := ⟨6, 1⟩) (meth := k6m1) (c := k6c1) (by decide +kernel) rfl rfl rfl (by decide +kernel)
set_option maxRecDepth 65536 in
theorem w_c2 : (Jvm.Cond.code ({ cls := "com/example/kediri/kediri/jpql/Expression$Operator", name := "symbol", desc := "()Ljava/lang/String;" } : Jvm.MethodName) prog_42_method_4_code (1 : Nat) (Option.some (Jvm.ClassFile.FieldType.object "java/lang/String"))).before args0 about1 = true := code_word (m := ⟨6, 0⟩) (meth := k6m0) (c := k6c0) (by decide +kernel) rfl rfl rfl (by decide +kernel)
set_option maxRecDepth 65536 in
theorem w_c3 : (Jvm.Cond.code ({ cls := "java/lang/String", name := "equals", desc := "(Ljava/lang/Object;)Z" } : Jvm.MethodName) jdk_42_method_66_code (3 : Nat) (Option.some Jvm.ClassFile.FieldType.boolean)).before args0 about1 = true := code_word (m := ⟨9, 1⟩) (meth := k9m1) (c := k9c1) (by decide +kernel) rfl rfl rfl (by decide +kernel)
set_option maxRecDepth 65536 in
theorem w_c4 : (Jvm.Cond.code ({ cls := "java/lang/StringLatin1", name := "equals", desc := "([B[B)Z" } : Jvm.MethodName) jdk_43_method_13_code (3 : Nat) (Option.some Jvm.ClassFile.FieldType.boolean)).before args0 about1 = true := code_word (m := ⟨10, 1⟩) (meth := k10m1) (c := k10c1) (by decide +kernel) rfl rfl rfl (by decide +kernel)
def codes1 : List Jvm.Cond := [Jvm.Cond.code x code maxLocals ret, Jvm.Cond.code ({ cls := "com/example/kediri/kediri/jpql/Expression$Operator", name := "isEquality", desc := "()Z" } : Jvm.MethodName) prog_42_method_5_code (1 : Nat) (Option.some Jvm.ClassFile.FieldType.boolean), Jvm.Cond.code ({ cls := "com/example/kediri/kediri/jpql/Expression$Operator", name := "symbol", desc := "()Ljava/lang/String;" } : Jvm.MethodName) prog_42_method_4_code (1 : Nat) (Option.some (Jvm.ClassFile.FieldType.object "java/lang/String")), Jvm.Cond.code ({ cls := "java/lang/String", name := "equals", desc := "(Ljava/lang/Object;)Z" } : Jvm.MethodName) jdk_42_method_66_code (3 : Nat) (Option.some Jvm.ClassFile.FieldType.boolean), Jvm.Cond.code ({ cls := "java/lang/StringLatin1", name := "equals", desc := "([B[B)Z" } : Jvm.MethodName) jdk_43_method_13_code (3 : Nat) (Option.some Jvm.ClassFile.FieldType.boolean)]
set_option maxRecDepth 65536 in
theorem codes_eq : words1.filter isCode = codes1 := rfl
theorem w_codes : ∀ c ∈ words1.filter isCode, c.before args0 about1 = true := by
  rw [codes_eq]
  intro c hc
  simp only [codes1, List.mem_cons, List.not_mem_nil, or_false] at hc
  rcases hc with rfl | rfl | rfl | rfl | rfl
  · exact w_c0
  · exact w_c1
  · exact w_c2
  · exact w_c3
  · exact w_c4
set_option maxRecDepth 65536 in
theorem w_t1 : (words1.take 24).all (fun c => isCode c || c.before args0 about1) = true := by decide +kernel
set_option maxRecDepth 65536 in
theorem w_t2 : ((words1.drop 24).take 24).all (fun c => isCode c || c.before args0 about1) = true := by decide +kernel
set_option maxRecDepth 65536 in
theorem w_t3 : ((words1.drop 24).drop 24).all (fun c => isCode c || c.before args0 about1) = true := by decide +kernel
theorem w_tables : (allAtoms (Jvm.Cond.code x code maxLocals ret :: tables_1)).before args0 about1 = true := by
  rw [allAtoms_all]
  show words1.all (fun c => c.before args0 about1) = true
  refine all_split ?_ w_codes
  rw [← List.take_append_drop 24 words1, List.all_append, w_t1, ← List.take_append_drop 24 (words1.drop 24), List.all_append, w_t2, w_t3]
  rfl
set_option maxRecDepth 65536 in
theorem w_rest : rest_1_c.before args0 about1 = true := by decide +kernel
set_option maxRecDepth 65536 in
theorem w_case : (Jvm.Cond.and given_1 narrow_1).before args0 about1 = true := by decide +kernel
set_option maxRecDepth 65536 in
theorem w_consts : constsHeld consts_1 about1 := Jvm.Lit.constsHeldB_iff.mp (by decide +kernel)
theorem w_applies : (headSpec (Jvm.Cond.code x code maxLocals ret :: tables_1) room_1).applies x e0.platform about1 = true :=
  (Spec.applies_iff w_frames).mpr ⟨w_running, w_runnable, w_alone, w_named, w_hears, w_ripe, w_room, w_tables⟩
theorem atStart : AtStart classFile x code maxLocals ret World_1 tables_1 room_1 Calls_1 rest_1 Pre_1 launch0 p0 e0 about1 theMethod args0 below0 :=
  ⟨lists_1, trivial, launch0.admits_env _ _ _, launch0.least_env, fairChoices_fair.cas, fairChoices_fair.clock, w_frames, w_args, w_heap, w_applies, ⟨w_consts, trivial⟩, w_rest, w_case⟩
end start1
theorem witness_1 : WitnessClaimed_1 := ⟨start1.p0, start1.e0, start1.about1, start1.theMethod, start1.args0, start1.below0, start1.atStart⟩
end Jvm.Pilot.@@N@@
