import JvmDerived
import JvmDerived.Pilot.@@N@@Statement
import JvmDerived.Pilot.@@N@@Code
set_option linter.unusedVariables false
set_option linter.unusedSimpArgs false
@@BLOCK:NumsL.lean.txt@@
namespace Jvm.Pilot.@@N@@
open Jvm Jvm.ClassFile Sem Op Lib Jvm.Free Jvm.Stand Jvm.LawKit Jvm.RoadKit Bundle Jvm.Pilot.@@N@@.Jvm.D
section OwnKit
variable {p : Program} {l : Launch} {e : Env} {R : Room} {s : State} {m : MethodId} {args : Array Value} {below : List Frame} {meth : Method} {c : Code} {T T' : State} {locs : List Loc} {cells slots : Nat} {Q : Option Value → Heap → List Loc → Prop} {k n : Nat} {Fin : Outcome → State → Prop} {Z : State} {a0 : Array Value} {h : Heap} {pc : Nat} {Ls : Array Slot} {rest : List Value}
/-- from this frame on the body ends as Fin says -/
def own_Go (p : Program) (e : Env) (below : List Frame) (Fin : Outcome → State → Prop) (T : State) (f : JFrame) : Prop :=
  ∃ s₂ o, Steps p.tables e below (T.setTop f) s₂ ∧ s₂.status = .running ∧ Ended s₂ below o ∧ Fin o s₂
/-- it returned, as Q says; the frame as ever -/
def own_Fin (s : State) (Q : Option Value → Heap → List Loc → Prop) (k n : Nat) (o : Outcome) (t : State) : Prop := ∃ v L, o = .returned v ∧ Q v t.heap L ∧ FrameEnd s o t L k n
/-- it returned, as Q says; String constants may have been resolved -/
def own_FinW (s : State) (Q : Option Value → Heap → List Loc → Prop) (k n : Nat) (o : Outcome) (t : State) : Prop := ∃ v L, o = .returned v ∧ Q v t.heap L ∧ ReturnedEndW s o t L k n
theorem own_by {f f' : JFrame} (st : ∀ t, Steps p.tables e below (T'.setTop f') t → Steps p.tables e below (T.setTop f) t) (g : own_Go p e below Fin T' f') : own_Go p e below Fin T f := by
  obtain ⟨s₂, o, h, r⟩ := g
  exact ⟨s₂, o, st _ h, r⟩
theorem own_start {f f' : JFrame} (q : f = f') (g : own_Go p e below (own_Fin s Q k n) T f') : ∃ s₂ o, Steps p.tables e below (T.setTop f) s₂ ∧ s₂.status = .running ∧ Ended s₂ below o ∧ ∃ v L, o = .returned v ∧ Q v s₂.heap L ∧ FrameEnd s o s₂ L k n := by
  subst q; exact g
theorem own_startW {f f' : JFrame} (q : f = f') (g : own_Go p e below (own_FinW s Q k n) T f') : ∃ s₂ o, Steps p.tables e below (T.setTop f) s₂ ∧ s₂.status = .running ∧ Ended s₂ below o ∧ ∃ v L, o = .returned v ∧ Q v s₂.heap L ∧ ReturnedEndW s o s₂ L k n := by
  subst q; exact g
theorem own_ret (X : Stand p l e R s m args below meth c T locs cells slots) (hx : p.tables.exec = Jvm.exec) (hlk : meth.locks = false) {w : Value} {t : FieldType} {i : Instr} (hret : meth.sig.returnType = some t)
    (hi : (i = .ireturn ∧ (t = .int ∨ t = .boolean ∨ t = .byte ∨ t = .char ∨ t = .short) ∧ ∃ z, w = .int z) ∨ (i = .lreturn ∧ t = .long ∧ ∃ z, w = .long z) ∨ (i = .dreturn ∧ t = .double ∧ ∃ z, w = .double z) ∨ (i = .freturn ∧ t = .float ∧ ∃ z, w = .float z) ∨ (i = .areturn ∧ t.isReference = true ∧ w.isRef = true))
    (hn : narrow t w = w) (hd : decode c.code pc = .ok (i, 1)) (eT : T.heap = h) (hk : cells ≤ k) (hs : slots ≤ n) (q : Q (some w) h locs) : own_Go p e below (own_Fin s Q k n) T (mkF m pc Ls (w :: rest)) := by
  obtain ⟨fs, hr, hrun, hended, hW, hsame⟩ := X.leave (v := some w) (fun h => by rw [hret] at h; cases h) hlk
  refine ⟨_, _, retOut X hx hret hn hi hd hr, hrun, hended, _, _, rfl, ?_, ⟨_, rfl⟩, hW, hsame.mono hk hs⟩
  show Q _ T.heap _
  rw [eT]; exact q
theorem own_retI (X : Stand p l e R s m args below meth c T locs cells slots) (hx : p.tables.exec = Jvm.exec) (hlk : meth.locks = false) {z : Int32} (hret : meth.sig.returnType = some .int) (hd : decode c.code pc = .ok (.ireturn, 1)) (eT : T.heap = h) (hk : cells ≤ k) (hs : slots ≤ n) (q : Q (some (.int z)) h locs) : own_Go p e below (own_Fin s Q k n) T (mkF m pc Ls (.int z :: rest)) :=
  own_ret X hx hlk hret (Or.inl ⟨rfl, Or.inl rfl, z, rfl⟩) rfl hd eT hk hs q
theorem own_retZ (X : Stand p l e R s m args below meth c T locs cells slots) (hx : p.tables.exec = Jvm.exec) (hlk : meth.locks = false) {z : Int32} (hret : meth.sig.returnType = some .boolean) (hz : z = 0 ∨ z = 1) (hd : decode c.code pc = .ok (.ireturn, 1)) (eT : T.heap = h) (hk : cells ≤ k) (hs : slots ≤ n) (q : Q (some (.int z)) h locs) : own_Go p e below (own_Fin s Q k n) T (mkF m pc Ls (.int z :: rest)) :=
  own_ret X hx hlk hret (Or.inl ⟨rfl, Or.inr (Or.inl rfl), z, rfl⟩) (by rcases hz with rfl | rfl <;> rfl) hd eT hk hs q
theorem own_retJ (X : Stand p l e R s m args below meth c T locs cells slots) (hx : p.tables.exec = Jvm.exec) (hlk : meth.locks = false) {z : Int64} (hret : meth.sig.returnType = some .long) (hd : decode c.code pc = .ok (.lreturn, 1)) (eT : T.heap = h) (hk : cells ≤ k) (hs : slots ≤ n) (q : Q (some (.long z)) h locs) : own_Go p e below (own_Fin s Q k n) T (mkF m pc Ls (.long z :: rest)) :=
  own_ret X hx hlk hret (Or.inr (Or.inl ⟨rfl, rfl, z, rfl⟩)) rfl hd eT hk hs q
theorem own_retR (X : Stand p l e R s m args below meth c T locs cells slots) (hx : p.tables.exec = Jvm.exec) (hlk : meth.locks = false) {w : Value} {t : FieldType} (hret : meth.sig.returnType = some t) (ht : t.isReference = true) (hw : w.isRef = true) (hn : narrow t w = w) (hd : decode c.code pc = .ok (.areturn, 1)) (eT : T.heap = h) (hk : cells ≤ k) (hs : slots ≤ n) (q : Q (some w) h locs) : own_Go p e below (own_Fin s Q k n) T (mkF m pc Ls (w :: rest)) :=
  own_ret X hx hlk hret (Or.inr (Or.inr (Or.inr (Or.inr ⟨rfl, ht, hw⟩)))) hn hd eT hk hs q
theorem own_retV (X : Stand p l e R s m args below meth c T locs cells slots) (hx : p.tables.exec = Jvm.exec) (hlk : meth.locks = false) (hret : meth.sig.returnType = none) (hd : decode c.code pc = .ok (.return_, 1)) (eT : T.heap = h) (hk : cells ≤ k) (hs : slots ≤ n) (q : Q none h locs) : own_Go p e below (own_Fin s Q k n) T (mkF m pc Ls []) := by
  obtain ⟨fs, hr, hrun, hended, hW, hsame⟩ := X.leave (v := none) (fun _ => rfl) hlk
  refine ⟨_, _, X.returnOut hx hret hd hr, hrun, hended, _, _, rfl, ?_, ⟨_, rfl⟩, hW, hsame.mono hk hs⟩
  show Q _ T.heap _
  rw [eT]; exact q
/-- a conditional branch as a plain comparison -/
def own_cnd : ClassFile.Cond → Int32 → Int32 → Prop
  | .eq, x, y => x = y
  | .ne, x, y => ¬ x = y
  | .lt, x, y => x < y
  | .ge, x, y => ¬ x < y
  | .gt, x, y => y < x
  | .le, x, y => ¬ y < x
def own_neg : ClassFile.Cond → ClassFile.Cond
  | .eq => .ne
  | .ne => .eq
  | .lt => .ge
  | .ge => .lt
  | .gt => .le
  | .le => .gt
theorem own_holds (cd : ClassFile.Cond) (x y : Int32) : (if_icmp.holds cd x y = true ∧ own_cnd cd x y) ∨ (if_icmp.holds cd x y = false ∧ own_cnd (own_neg cd) x y) := by
  cases cd
  case eq => by_cases q : x = y; · exact Or.inl ⟨(teq q).1, q⟩
             · exact Or.inr ⟨(feq q).1, q⟩
  case ne => by_cases q : x = y; · exact Or.inr ⟨(teq q).2, q⟩
             · exact Or.inl ⟨(feq q).2, q⟩
  case lt => by_cases q : x < y; · exact Or.inl ⟨(tlt q).1, q⟩
             · exact Or.inr ⟨(flt q).1, q⟩
  case ge => by_cases q : x < y; · exact Or.inr ⟨(tlt q).2.1, q⟩
             · exact Or.inl ⟨(flt q).2.1, q⟩
  case gt => by_cases q : y < x; · exact Or.inl ⟨(tlt q).2.2.1, q⟩
             · exact Or.inr ⟨(flt q).2.2.1, q⟩
  case le => by_cases q : y < x; · exact Or.inr ⟨(tlt q).2.2.2, q⟩
             · exact Or.inl ⟨(flt q).2.2.2, q⟩
theorem own_icmp (X : Stand p l e R s m args below meth c T locs cells slots) (hx : p.tables.exec = Jvm.exec) {cd : ClassFile.Cond} {x y : Int32} {o : Int} (pc' : Nat) (hd : decode c.code pc = .ok (.if_icmp cd o, 3)) (ho : 0 ≤ (pc : Int) + o) (hp : ((pc : Int) + o).toNat = pc')
    (g1 : own_cnd cd x y → own_Go p e below Fin T (mkF m pc' Ls rest)) (g2 : own_cnd (own_neg cd) x y → own_Go p e below Fin T (mkF m (pc + 3) Ls rest)) : own_Go p e below Fin T (mkF m pc Ls (.int y :: .int x :: rest)) := by
  rcases own_holds cd x y with ⟨q, q'⟩ | ⟨q, q'⟩
  · exact own_by (fun t kk => XS.icmpYes X.here hx rfl (pc0 := pc) (pc' := pc') rfl hd rfl q ho hp kk) (g1 q')
  · exact own_by (fun t kk => XS.icmpNo X.here hx rfl hd rfl q kk) (g2 q')
theorem own_if (X : Stand p l e R s m args below meth c T locs cells slots) (hx : p.tables.exec = Jvm.exec) {cd : ClassFile.Cond} {x : Int32} {o : Int} (pc' : Nat) (hd : decode c.code pc = .ok (.ifCond cd o, 3)) (ho : 0 ≤ (pc : Int) + o) (hp : ((pc : Int) + o).toNat = pc')
    (g1 : own_cnd cd x 0 → own_Go p e below Fin T (mkF m pc' Ls rest)) (g2 : own_cnd (own_neg cd) x 0 → own_Go p e below Fin T (mkF m (pc + 3) Ls rest)) : own_Go p e below Fin T (mkF m pc Ls (.int x :: rest)) := by
  rcases own_holds cd x 0 with ⟨q, q'⟩ | ⟨q, q'⟩
  · exact own_by (fun t kk => XS.ifYes X.here hx rfl (pc0 := pc) (pc' := pc') rfl hd rfl ((if0 _ _).trans q) ho hp kk) (g1 q')
  · exact own_by (fun t kk => XS.ifNo X.here hx rfl hd rfl ((if0 _ _).trans q) kk) (g2 q')
/-- a static call by the callee's contract -/
theorem own_callS (X : Stand p l e R s m args below meth c T locs cells slots) (hx : p.tables.exec = Jvm.exec) (hZ : Z.Warmed39 s.vm) {own : String} {index : Nat} {y : MethodName} {bytes : ByteArray} {maxL W : Nat} {ret : Option FieldType} {rm : Room} {Qc : Option Value → Heap → List Loc → Prop}
    (hown : s.vm.findClass own = some m.cls) (w1 : (Cond.methodLink own index y).before a0 Z = true) (w2 : (Cond.static y).before a0 Z = true) (w3 : (Cond.initialized y.cls).before a0 Z = true) (w4 : (Cond.code y bytes maxL ret).before a0 Z = true)
    (hy : y.cls ≠ "java/lang/invoke/MethodHandle" ∧ y.cls ≠ "java/lang/invoke/VarHandle") (hml : Ls.size = c.maxLocals) {argsL : List Value} {ps : List FieldType} {rt : Option FieldType} (pd : parseMethodDescriptor y.desc = some ⟨ps, rt⟩) (hlen : argsL.length = ps.length)
    (hM : MetFree l y (head1 [Cond.code y bytes maxL ret] rm) (fun a U => a = argsL.toArray ∧ Z.Warmed39 U.vm ∧ U.heap = h) (fun _ _ _ _ _ => True) (fun _ U o U' => ∃ v L, o = .returned v ∧ Qc v U'.heap L ∧ FrameEnd U o U' L rm.cells rm.slots))
    (hf : rm.frames + 1 ≤ R.frames) (hl : W + (maxL + 11) + rm.locals ≤ R.locals) (hW : (rest.map fun v => v.category).sum ≤ W) (hc : cells + rm.cells ≤ R.cells) (hs : slots + rm.slots ≤ R.slots) (eT : T.heap = h) {st : List Value} (hst : st = argsL.reverse ++ rest) (hd : decode c.code pc = .ok (.invokestatic index, 3))
    (g : ∀ (v : Option Value) (T' : State) (L : List Loc), Stand p l e R s m args below meth c T' (locs ++ L) (cells + rm.cells) (slots + rm.slots) → Qc v T'.heap L → own_Go p e below Fin T' (mkF m (pc + 3) Ls (v.toList ++ rest))) :
    own_Go p e below Fin T (mkF m pc Ls st) := by
  subst hst
  obtain ⟨v, _, ⟨T2, L2, k2, n2⟩, -, X2, ⟨Lc2, hQ2, l2, y2, z2⟩, st2⟩ := Jvm.LawKit.callS X hx (y := y) hown (mvT hZ w1) (mvT hZ w2) (mvT hZ w3) (mvT hZ w4) hy (backOf (W := W) hM hZ w4 w3 hf hl) (g := (mkF m pc Ls (argsL.reverse ++ rest))) rfl hml (argsL := argsL) (rest := rest) (lenOf pd hlen) rfl (by show 2 * 0 + _ ≤ _; omega) hd (fun _ _ => ⟨rfl, eT, hc, hs⟩)
  dsimp only [Pt.U, Pt.locs, Pt.cells, Pt.slots] at X2 l2 y2 z2 st2 hQ2
  subst l2 y2 z2
  exact own_by (fun t kk => st2 _ kk) (g v T2 Lc2 X2 hQ2)
/-- a constructor by its contract -/
theorem own_callC (X : Stand p l e R s m args below meth c T locs cells slots) (hx : p.tables.exec = Jvm.exec) (hZ : Z.Warmed39 s.vm) {own : String} {index : Nat} {y : MethodName} {bytes : ByteArray} {maxL W : Nat} {rm : Room} {Qc : Option Value → Heap → List Loc → Prop} (hy1 : y.name = "<init>")
    (hown : s.vm.findClass own = some m.cls) (w1 : (Cond.methodLink own index y).before a0 Z = true) (w2 : (Cond.instanceMethod y).before a0 Z = true) (w3 : (Cond.initialized y.cls).before a0 Z = true) (w4 : (Cond.code y bytes maxL none).before a0 Z = true)
    (hy : y.cls ≠ "java/lang/invoke/MethodHandle" ∧ y.cls ≠ "java/lang/invoke/VarHandle") (hml : Ls.size = c.maxLocals) {a : Addr} {argsL : List Value} {ps : List FieldType} {rt : Option FieldType} (pd : parseMethodDescriptor y.desc = some ⟨ps, rt⟩) (hlen : argsL.length = ps.length)
    (hM : MetFree l y (head1 [Cond.code y bytes maxL none] rm) (fun b U => b = (.ref a :: argsL).toArray ∧ Z.Warmed39 U.vm ∧ U.heap = h) (fun _ _ _ _ _ => True) (fun _ U o U' => ∃ v L, o = .returned v ∧ Qc v U'.heap L ∧ FrameEnd U o U' L rm.cells rm.slots))
    (hf : rm.frames + 1 ≤ R.frames) (hl : W + (maxL + 11) + rm.locals ≤ R.locals) (hW : (rest.map fun v => v.category).sum ≤ W) (hc : cells + rm.cells ≤ R.cells) (hs : slots + rm.slots ≤ R.slots) (eT : T.heap = h) {st : List Value} (hst : st = argsL.reverse ++ .ref a :: rest) (hd : decode c.code pc = .ok (.invokespecial index, 3))
    (g : ∀ (v : Option Value) (T' : State) (L : List Loc), Stand p l e R s m args below meth c T' (locs ++ L) (cells + rm.cells) (slots + rm.slots) → Qc v T'.heap L → own_Go p e below Fin T' (mkF m (pc + 3) Ls (v.toList ++ rest))) :
    own_Go p e below Fin T (mkF m pc Ls st) := by
  subst hst
  obtain ⟨v, _, ⟨T2, L2, k2, n2⟩, -, X2, ⟨Lc2, hQ2, l2, y2, z2⟩, st2⟩ := X.specialBack hx (y := y) hy1 hown (mvT hZ w1) (mvT hZ w2) (mvT hZ w4) hy (backOf (W := W) hM hZ w4 w3 hf hl) (g := (mkF m pc Ls (argsL.reverse ++ .ref a :: rest))) rfl hml (Steps.refl _) (a := a) (argsL := argsL) (rest := rest) (lenOf pd hlen) rfl (by show 2 * 0 + _ ≤ _; omega) hd (fun _ _ => ⟨rfl, eT, hc, hs⟩)
  dsimp only [Pt.U, Pt.locs, Pt.cells, Pt.slots] at X2 l2 y2 z2 st2 hQ2
  subst l2 y2 z2
  exact own_by (fun t kk => st2.trans kk) (g v T2 Lc2 X2 hQ2)
/-- an instance method of the receiver's own class by its contract -/
theorem own_callV (X : Stand p l e R s m args below meth c T locs cells slots) (hx : p.tables.exec = Jvm.exec) (hZ : Z.Warmed39 s.vm) {own C : String} {index : Nat} {y z : MethodName} {bytes : ByteArray} {maxL W : Nat} {ret : Option FieldType} {rm : Room} {Qc : Option Value → Heap → List Loc → Prop}
    (hown : s.vm.findClass own = some m.cls) (w1 : (Cond.methodLink own index y).before a0 Z = true) (wd : (Cond.declares y).before a0 Z = true) (nf : NotFace s y) (ws : (Cond.selects C y z).before a0 Z = true) (w2 : (Cond.instanceMethod z).before a0 Z = true) (w3 : (Cond.initialized z.cls).before a0 Z = true) (w4 : (Cond.code z bytes maxL ret).before a0 Z = true)
    (hy : y.cls ≠ "java/lang/invoke/MethodHandle" ∧ y.cls ≠ "java/lang/invoke/VarHandle") (hml : Ls.size = c.maxLocals) {a : Addr} {argsL : List Value} {ps : List FieldType} {rt : Option FieldType} (pd : parseMethodDescriptor y.desc = some ⟨ps, rt⟩) (hlen : argsL.length = ps.length)
    (eT : T.heap = h) (E : Exa Z h a C)
    (hM : MetFree l z (head1 [Cond.code z bytes maxL ret] rm) (fun b U => b = (.ref a :: argsL).toArray ∧ Z.Warmed39 U.vm ∧ U.heap = h) (fun _ _ _ _ _ => True) (fun _ U o U' => ∃ v L, o = .returned v ∧ Qc v U'.heap L ∧ FrameEnd U o U' L rm.cells rm.slots))
    (hf : rm.frames + 1 ≤ R.frames) (hl : W + (maxL + 11) + rm.locals ≤ R.locals) (hW : (rest.map fun v => v.category).sum ≤ W) (hc : cells + rm.cells ≤ R.cells) (hs : slots + rm.slots ≤ R.slots) {st : List Value} (hst : st = argsL.reverse ++ .ref a :: rest) (hd : decode c.code pc = .ok (.invokevirtual index, 3))
    (g : ∀ (v : Option Value) (T' : State) (L : List Loc), Stand p l e R s m args below meth c T' (locs ++ L) (cells + rm.cells) (slots + rm.slots) → Qc v T'.heap L → own_Go p e below Fin T' (mkF m (pc + 3) Ls (v.toList ++ rest))) :
    own_Go p e below Fin T (mkF m pc Ls st) := by
  subst hst
  obtain ⟨cq, kq, qa, qb, qc⟩ := isOf hZ eT E
  obtain ⟨v, _, ⟨T2, L2, k2, n2⟩, -, X2, ⟨Lc2, hQ2, l2, y2, z2⟩, st2⟩ := X.virtualBack hx (y := y) (z := z) hown (mvT hZ w1) (mvT hZ wd) nf (mvT hZ ws) (mvT hZ w2) hy (backOf (W := W) hM hZ w4 w3 hf hl) qa qc (g := (mkF m pc Ls (argsL.reverse ++ .ref a :: rest))) rfl hml (Steps.refl _) (argsL := argsL) (rest := rest) (lenOf pd hlen) rfl (by show 2 * 0 + _ ≤ _; omega) hd (fun _ _ => ⟨rfl, eT, hc, hs⟩)
  dsimp only [Pt.U, Pt.locs, Pt.cells, Pt.slots] at X2 l2 y2 z2 st2 hQ2
  subst l2 y2 z2
  exact own_by (fun t kk => st2.trans kk) (g v T2 Lc2 X2 hQ2)
theorem own_getF (X : Stand p l e R s m args below meth c T locs cells slots) (hx : p.tables.exec = Jvm.exec) (hZ : Z.Warmed39 s.vm) {own R0 O nm d : String} {index : Nat} (hown : s.vm.findClass own = some m.cls) (w : (Cond.fieldLink own index R0 nm d).before a0 Z = true) (via : Via Z R0 O nm d) (eT : T.heap = h) {a : Addr} {v : Value} (F : Fld Z h a O nm d v) (hd : decode c.code pc = .ok (.getfield index, 3))
    (g : ∀ T', Stand p l e R s m args below meth c T' locs cells slots → T'.heap = h → own_Go p e below Fin T' (mkF m (pc + 3) Ls (v :: rest))) : own_Go p e below Fin T (mkF m pc Ls (.ref a :: rest)) := by
  obtain ⟨T', X', e', st⟩ := getF X hx hZ hown (host := "") (Or.inl w) via eT F (g := mkF m pc Ls (.ref a :: rest)) rfl rfl hd
  exact own_by (fun t kk => st _ kk) (g T' X' e')
theorem own_getFN (X : Stand p l e R s m args below meth c T locs cells slots) (hx : p.tables.exec = Jvm.exec) (hZ : Z.Warmed39 s.vm) {own R0 O nm d host : String} {index : Nat} (hown : s.vm.findClass own = some m.cls) (w : (Cond.fieldLinkNest own index R0 nm d host).before a0 Z = true) (via : Via Z R0 O nm d) (eT : T.heap = h) {a : Addr} {v : Value} (F : Fld Z h a O nm d v) (hd : decode c.code pc = .ok (.getfield index, 3))
    (g : ∀ T', Stand p l e R s m args below meth c T' locs cells slots → T'.heap = h → own_Go p e below Fin T' (mkF m (pc + 3) Ls (v :: rest))) : own_Go p e below Fin T (mkF m pc Ls (.ref a :: rest)) := by
  obtain ⟨T', X', e', st⟩ := getF X hx hZ hown (Or.inr w) via eT F (g := mkF m pc Ls (.ref a :: rest)) rfl rfl hd
  exact own_by (fun t kk => st _ kk) (g T' X' e')
theorem own_getS (X : Stand p l e R s m args below meth c T locs cells slots) (hx : p.tables.exec = Jvm.exec) (hZ : Z.Warmed39 s.vm) {own R0 O nm d : String} {index : Nat} (hown : s.vm.findClass own = some m.cls) (w : (Cond.fieldLink own index R0 nm d).before a0 Z = true) (via : Via Z R0 O nm d) (eT : T.heap = h) {v : Value} (F : Sta Z h O nm d v) (hd : decode c.code pc = .ok (.getstatic index, 3)) {st0 : List Value}
    (g : ∀ T', Stand p l e R s m args below meth c T' locs cells slots → T'.heap = h → own_Go p e below Fin T' (mkF m (pc + 3) Ls (v :: st0))) : own_Go p e below Fin T (mkF m pc Ls st0) := by
  obtain ⟨T', X', e', st⟩ := getS2 X hx hZ hown (host := "") (Or.inl w) via eT F (g := mkF m pc Ls st0) rfl hd
  exact own_by (fun t kk => st _ kk) (g T' X' e')
theorem own_getSN (X : Stand p l e R s m args below meth c T locs cells slots) (hx : p.tables.exec = Jvm.exec) (hZ : Z.Warmed39 s.vm) {own R0 O nm d host : String} {index : Nat} (hown : s.vm.findClass own = some m.cls) (w : (Cond.fieldLinkNest own index R0 nm d host).before a0 Z = true) (via : Via Z R0 O nm d) (eT : T.heap = h) {v : Value} (F : Sta Z h O nm d v) (hd : decode c.code pc = .ok (.getstatic index, 3)) {st0 : List Value}
    (g : ∀ T', Stand p l e R s m args below meth c T' locs cells slots → T'.heap = h → own_Go p e below Fin T' (mkF m (pc + 3) Ls (v :: st0))) : own_Go p e below Fin T (mkF m pc Ls st0) := by
  obtain ⟨T', X', e', st⟩ := getS2 X hx hZ hown (Or.inr w) via eT F (g := mkF m pc Ls st0) rfl hd
  exact own_by (fun t kk => st _ kk) (g T' X' e')
theorem own_putF (X : Stand p l e R s m args below meth c T locs cells slots) (hx : p.tables.exec = Jvm.exec) (hZ : Z.Warmed39 s.vm) {own R0 O nm d C : String} {index kk : Nat} {ty : FieldType} (hown : s.vm.findClass own = some m.cls) (w : (Cond.fieldLink own index R0 nm d).before a0 Z = true) (via : Via Z R0 O nm d) (eT : T.heap = h) {a : Addr} {v old : Value} (F : Fld Z h a O nm d old) (E : Exa Z h a C)
    (L : (Cond.lays C O nm d).before a0 Z = true ∨ ((Cond.laysFinal C O nm d).before a0 Z = true ∧ own = O ∧ meth.name = "<init>")) (wi : (Cond.instantiable C kk).before a0 Z = true) (hty : parseFieldDescriptor d = some ty) (hn : narrow ty v = v) (hf : fits ty v = true) (hd : decode c.code pc = .ok (.putfield index, 3))
    (g : ∀ T' h', Stand p l e R s m args below meth c T' (locs ++ [⟨a, Jvm.RoadKit.slotOf Z O nm d⟩]) cells slots → T'.heap = h' → Wr h h' a (Jvm.RoadKit.slotOf Z O nm d) v → own_Go p e below Fin T' (mkF m (pc + 3) Ls rest)) : own_Go p e below Fin T (mkF m pc Ls (v :: .ref a :: rest)) := by
  obtain ⟨T', h', X', e', W', st⟩ := putF X hx hZ hown (host := "") (Or.inl w) via eT F E L wi hty hn hf (g := mkF m pc Ls (v :: .ref a :: rest)) rfl rfl hd
  exact own_by (fun t kk => st _ kk) (g T' h' X' e' W')
theorem own_newO (X : Stand p l e R s m args below meth c T locs cells slots) (hx : p.tables.exec = Jvm.exec) (hZ : Z.Warmed39 s.vm) {own C : String} {index nn : Nat} (hown : s.vm.findClass own = some m.cls) (w : (Cond.classLink own index C).before a0 Z = true) (wi : (Cond.instantiable C nn).before a0 Z = true) (wz : (Cond.initialized C).before a0 Z = true) (eT : T.heap = h) (hd : decode c.code pc = .ok (.new index, 3)) (hc : cells + 1 ≤ R.cells) (hl : slots + nn ≤ R.slots) {st0 : List Value}
    (g : ∀ T' h' (b : Addr), Stand p l e R s m args below meth c T' locs (cells + 1) (slots + nn) → T'.heap = h' → b = h.size → Ext h h' → Exa Z h' b C → (∀ {O nm d : String} {ty : FieldType}, Laid Z a0 C O nm d → parseFieldDescriptor d = some ty → Fld Z h' b O nm d (defaultValue ty)) → own_Go p e below Fin T' (mkF m (pc + 3) Ls (.ref b :: st0))) : own_Go p e below Fin T (mkF m pc Ls st0) := by
  obtain ⟨T', h', X', e', E', A', D', -, st⟩ := newO X hx hZ hown w wi wz eT (g := mkF m pc Ls st0) rfl hd hc hl
  exact own_by (fun t kk => st _ kk) (g T' h' _ X' e' rfl E' A' D')
theorem own_initO (X : Stand p l e R s m args below meth c T locs cells slots) (hx : p.tables.exec = Jvm.exec) (hZ : Z.Warmed39 s.vm) {own : String} {idx : Nat} (hown : s.vm.findClass own = some m.cls) (w1 : (Cond.methodLink own idx Lib.objectInit).before a0 Z = true) (w2 : (Cond.instanceMethod Lib.objectInit).before a0 Z = true) (w3 : (Cond.code Lib.objectInit ⟨#[0xb1]⟩ 1 none).before a0 Z = true) (eT : T.heap = h) (hml : Ls.size = c.maxLocals) {a : Addr} (hd : decode c.code pc = .ok (.invokespecial idx, 3)) (hf : 1 ≤ R.frames) {W : Nat} (hW : (rest.map fun v => v.category).sum ≤ W) (hl : W + 12 ≤ R.locals)
    (g : ∀ T', Stand p l e R s m args below meth c T' locs cells slots → T'.heap = h → own_Go p e below Fin T' (mkF m (pc + 3) Ls rest)) : own_Go p e below Fin T (mkF m pc Ls (.ref a :: rest)) := by
  obtain ⟨T', X', e', st⟩ := initO X hx hZ hown w1 w2 w3 eT (g := mkF m pc Ls (.ref a :: rest)) rfl hml rfl hd hf (W := W) (by show 2 * 0 + _ ≤ _; omega) hl
  exact own_by (fun t kk => st _ kk) (g T' X' e')
end OwnKit
section OwnMore
variable {p : Program} {l : Launch} {e : Env} {R : Room} {s : State} {m : MethodId} {args : Array Value} {below : List Frame} {meth : Method} {c : Code} {T T' : State} {locs : List Loc} {cells slots : Nat} {Q : Option Value → Heap → List Loc → Prop} {k n : Nat} {Fin : Outcome → State → Prop} {Z : State} {a0 : Array Value} {h : Heap} {pc : Nat} {Ls : Array Slot} {rest : List Value}
theorem own_acmpEq (X : Stand p l e R s m args below meth c T locs cells slots) (hx : p.tables.exec = Jvm.exec) {a b : Addr} {o : Int} (pc' : Nat) (hd : decode c.code pc = .ok (.if_acmp .eq o, 3)) (ho : 0 ≤ (pc : Int) + o) (hp : ((pc : Int) + o).toNat = pc')
    (g1 : a = b → own_Go p e below Fin T (mkF m pc' Ls rest)) (g2 : ¬ a = b → own_Go p e below Fin T (mkF m (pc + 3) Ls rest)) : own_Go p e below Fin T (mkF m pc Ls (.ref b :: .ref a :: rest)) := by
  by_cases q : a = b
  · exact own_by (fun t kk => XT.acmpYes X.here hx rfl (pc0 := pc) (pc' := pc') rfl hd rfl rfl rfl (decide_eq_true (congrArg Value.ref q)) ho hp kk) (g1 q)
  · exact own_by (fun t kk => XT.acmpNo X.here hx rfl hd rfl rfl rfl (decide_eq_false fun z => q (Value.ref.inj z)) kk) (g2 q)
theorem own_acmpNe (X : Stand p l e R s m args below meth c T locs cells slots) (hx : p.tables.exec = Jvm.exec) {a b : Addr} {o : Int} (pc' : Nat) (hd : decode c.code pc = .ok (.if_acmp .ne o, 3)) (ho : 0 ≤ (pc : Int) + o) (hp : ((pc : Int) + o).toNat = pc')
    (g1 : ¬ a = b → own_Go p e below Fin T (mkF m pc' Ls rest)) (g2 : a = b → own_Go p e below Fin T (mkF m (pc + 3) Ls rest)) : own_Go p e below Fin T (mkF m pc Ls (.ref b :: .ref a :: rest)) := by
  by_cases q : a = b
  · exact own_by (fun t kk => XT.acmpNo X.here hx rfl hd rfl rfl rfl (decide_eq_false fun z => z (congrArg Value.ref q)) kk) (g2 q)
  · exact own_by (fun t kk => XT.acmpYes X.here hx rfl (pc0 := pc) (pc' := pc') rfl hd rfl rfl rfl (decide_eq_true fun z => q (Value.ref.inj z)) ho hp kk) (g1 q)
theorem own_eqI {args : Array Value} {t : Term} {x : Int32} (h : (Cond.eq t (.int x)).value args s none s [] = some true) : t.eval args s none [] s = some (.int x) := by
  have q : (Term.int x).eval args s none [] s = some (.int x) := rfl
  cases ht : t.eval args s none [] s with
  | none => simp [Cond.value, ht] at h
  | some w => cases w <;> simp [Cond.value, ht, q] at h <;> (try subst h) <;> simp_all
theorem own_enumF {args : Array Value} {C f d O nm dd : String} {a : Addr} {x : Int32} (ev : (Term.static C f d).eval args s none [] s = some (.ref a)) (h : (Cond.eq (Term.field (Term.static C f d) O nm dd) (.int x)).value args s none s [] = some true) : Fld s s.heap a O nm dd (.int x) :=
  Fld.start ((fld_at ev).symm.trans (own_eqI h))
theorem own_Sta_keep {Z : State} {h h' : Heap} {C n d : String} {v : Value} {ws : List Addr} (F : Sta Z h C n d v) (K : Keep h h' ws) (q : ∀ x ∈ ws, ∀ cell : Cell, h[x]? = some cell → cell.vm.isStatics = false) : Sta Z h' C n d v := by
  obtain ⟨cf, i, k, f, st, cell, h1, h2, h3, h4, h5, h6, h7⟩ := F
  exact ⟨cf, i, k, f, st, cell, h1, h2, h3, h4, K.2.1 st cell h5 (fun z => by rw [q st z cell h5] at h6; cases h6), h6, h7⟩
end OwnMore
theorem pn_0 : plainName "com/example/quelex/quelex/KindStartsAsNamePinLaw" = true := by first | (simp [plainName, overriddenIn]; done) | decide +kernel
theorem d1_0 : decode method_2_code 0 = .ok (.iload_n 0, 1) := by decide +kernel
theorem d1_1 : decode method_2_code 1 = .ok (.tableswitch 175 0 19 #[95, 99, 103, 107, 111, 115, 119, 123, 127, 131, 135, 139, 143, 147, 151, 155, 159, 163, 167, 171], 95) := by decide +kernel
theorem d1_96 : decode method_2_code 96 = .ok (.getstatic 7, 3) := by decide +kernel
theorem d1_99 : decode method_2_code 99 = .ok (.areturn, 1) := by decide +kernel
theorem d1_100 : decode method_2_code 100 = .ok (.getstatic 13, 3) := by decide +kernel
theorem d1_103 : decode method_2_code 103 = .ok (.areturn, 1) := by decide +kernel
theorem d1_104 : decode method_2_code 104 = .ok (.getstatic 16, 3) := by decide +kernel
theorem d1_107 : decode method_2_code 107 = .ok (.areturn, 1) := by decide +kernel
theorem d1_108 : decode method_2_code 108 = .ok (.getstatic 19, 3) := by decide +kernel
theorem d1_111 : decode method_2_code 111 = .ok (.areturn, 1) := by decide +kernel
theorem d1_112 : decode method_2_code 112 = .ok (.getstatic 22, 3) := by decide +kernel
theorem d1_115 : decode method_2_code 115 = .ok (.areturn, 1) := by decide +kernel
theorem d1_116 : decode method_2_code 116 = .ok (.getstatic 25, 3) := by decide +kernel
theorem d1_119 : decode method_2_code 119 = .ok (.areturn, 1) := by decide +kernel
theorem d1_120 : decode method_2_code 120 = .ok (.getstatic 28, 3) := by decide +kernel
theorem d1_123 : decode method_2_code 123 = .ok (.areturn, 1) := by decide +kernel
theorem d1_124 : decode method_2_code 124 = .ok (.getstatic 31, 3) := by decide +kernel
theorem d1_127 : decode method_2_code 127 = .ok (.areturn, 1) := by decide +kernel
theorem d1_128 : decode method_2_code 128 = .ok (.getstatic 34, 3) := by decide +kernel
theorem d1_131 : decode method_2_code 131 = .ok (.areturn, 1) := by decide +kernel
theorem d1_132 : decode method_2_code 132 = .ok (.getstatic 37, 3) := by decide +kernel
theorem d1_135 : decode method_2_code 135 = .ok (.areturn, 1) := by decide +kernel
theorem d1_136 : decode method_2_code 136 = .ok (.getstatic 40, 3) := by decide +kernel
theorem d1_139 : decode method_2_code 139 = .ok (.areturn, 1) := by decide +kernel
theorem d1_140 : decode method_2_code 140 = .ok (.getstatic 43, 3) := by decide +kernel
theorem d1_143 : decode method_2_code 143 = .ok (.areturn, 1) := by decide +kernel
theorem d1_144 : decode method_2_code 144 = .ok (.getstatic 46, 3) := by decide +kernel
theorem d1_147 : decode method_2_code 147 = .ok (.areturn, 1) := by decide +kernel
theorem d1_148 : decode method_2_code 148 = .ok (.getstatic 49, 3) := by decide +kernel
theorem d1_151 : decode method_2_code 151 = .ok (.areturn, 1) := by decide +kernel
theorem d1_152 : decode method_2_code 152 = .ok (.getstatic 52, 3) := by decide +kernel
theorem d1_155 : decode method_2_code 155 = .ok (.areturn, 1) := by decide +kernel
theorem d1_156 : decode method_2_code 156 = .ok (.getstatic 55, 3) := by decide +kernel
theorem d1_159 : decode method_2_code 159 = .ok (.areturn, 1) := by decide +kernel
theorem d1_160 : decode method_2_code 160 = .ok (.getstatic 58, 3) := by decide +kernel
theorem d1_163 : decode method_2_code 163 = .ok (.areturn, 1) := by decide +kernel
theorem d1_164 : decode method_2_code 164 = .ok (.getstatic 61, 3) := by decide +kernel
theorem d1_167 : decode method_2_code 167 = .ok (.areturn, 1) := by decide +kernel
theorem d1_168 : decode method_2_code 168 = .ok (.getstatic 64, 3) := by decide +kernel
theorem d1_171 : decode method_2_code 171 = .ok (.areturn, 1) := by decide +kernel
theorem d1_172 : decode method_2_code 172 = .ok (.getstatic 67, 3) := by decide +kernel
theorem d1_175 : decode method_2_code 175 = .ok (.areturn, 1) := by decide +kernel
theorem d1_176 : decode method_2_code 176 = .ok (.getstatic 70, 3) := by decide +kernel
theorem d1_179 : decode method_2_code 179 = .ok (.areturn, 1) := by decide +kernel
theorem pn_2 : plainName "com/example/quelex/quelex/Lexeme$Kind" = true := by first | (simp [plainName, overriddenIn]; done) | decide +kernel
theorem d2_0 : decode prog_34_method_6_code 0 = .ok (.aload_n 0, 1) := by decide +kernel
theorem d2_1 : decode prog_34_method_6_code 1 = .ok (.getstatic 3, 3) := by decide +kernel
theorem d2_4 : decode prog_34_method_6_code 4 = .ok (.if_acmp .eq 17, 3) := by decide +kernel
theorem d2_21 : decode prog_34_method_6_code 21 = .ok (.iconst 1, 1) := by decide +kernel
theorem d2_22 : decode prog_34_method_6_code 22 = .ok (.goto 4, 3) := by decide +kernel
theorem d2_26 : decode prog_34_method_6_code 26 = .ok (.ireturn, 1) := by decide +kernel
theorem d2_7 : decode prog_34_method_6_code 7 = .ok (.aload_n 0, 1) := by decide +kernel
theorem d2_8 : decode prog_34_method_6_code 8 = .ok (.getstatic 7, 3) := by decide +kernel
theorem d2_11 : decode prog_34_method_6_code 11 = .ok (.if_acmp .eq 10, 3) := by decide +kernel
theorem d2_14 : decode prog_34_method_6_code 14 = .ok (.aload_n 0, 1) := by decide +kernel
theorem d2_15 : decode prog_34_method_6_code 15 = .ok (.getstatic 10, 3) := by decide +kernel
theorem d2_18 : decode prog_34_method_6_code 18 = .ok (.if_acmp .ne 7, 3) := by decide +kernel
theorem d2_25 : decode prog_34_method_6_code 25 = .ok (.iconst 0, 1) := by decide +kernel
theorem pd_0 : parseMethodDescriptor "(I)Lcom/example/quelex/quelex/Lexeme$Kind;" = some ⟨[.int], some (.object "com/example/quelex/quelex/Lexeme$Kind")⟩ := by decide +kernel
theorem pd_1 : parseMethodDescriptor "()Z" = some ⟨[], some .boolean⟩ := by decide +kernel
theorem own_l21 {k : Int32} (h0 : 0 ≤ k.toInt) (h1 : k.toInt < 21) : k = 0 ∨ k = 1 ∨ k = 2 ∨ k = 3 ∨ k = 4 ∨ k = 5 ∨ k = 6 ∨ k = 7 ∨ k = 8 ∨ k = 9 ∨ k = 10 ∨ k = 11 ∨ k = 12 ∨ k = 13 ∨ k = 14 ∨ k = 15 ∨ k = 16 ∨ k = 17 ∨ k = 18 ∨ k = 19 ∨ k = 20 := by
  simp only [← Int32.toInt_inj, show (0 : Int32).toInt = 0 from by decide, show (1 : Int32).toInt = 1 from by decide, show (2 : Int32).toInt = 2 from by decide, show (3 : Int32).toInt = 3 from by decide, show (4 : Int32).toInt = 4 from by decide, show (5 : Int32).toInt = 5 from by decide, show (6 : Int32).toInt = 6 from by decide, show (7 : Int32).toInt = 7 from by decide, show (8 : Int32).toInt = 8 from by decide, show (9 : Int32).toInt = 9 from by decide, show (10 : Int32).toInt = 10 from by decide, show (11 : Int32).toInt = 11 from by decide, show (12 : Int32).toInt = 12 from by decide, show (13 : Int32).toInt = 13 from by decide, show (14 : Int32).toInt = 14 from by decide, show (15 : Int32).toInt = 15 from by decide, show (16 : Int32).toInt = 16 from by decide, show (17 : Int32).toInt = 17 from by decide, show (18 : Int32).toInt = 18 from by decide, show (19 : Int32).toInt = 19 from by decide, show (20 : Int32).toInt = 20 from by decide]
  omega
theorem own_k21 (x : Int32) : 0 ≤ ((x &&& 2147483647) % 21).toInt ∧ ((x &&& 2147483647) % 21).toInt < 21 := by
  have e1 : (x &&& 2147483647).toInt = x.toInt % 2 ^ 31 := Jvm.Kit.i32_mask x 2147483647 (k := 31) (by decide) (by decide)
  have k5 : (21 : Int32).toInt = 21 := by decide
  have e2 := Jvm.Kit.i32_rem_nonneg (x := x &&& 2147483647) (y := 21) (by omega)
  rw [e2, k5]; omega
def Q1 (a : Addr) (h0 : Heap) (n0 : Nat) (v : Option Value) (h : Heap) (L : List Loc) : Prop := v = some (.ref a) ∧ Fr n0 L ∧ h = h0
def own_sn (a b c d : Addr) : Int32 := if a = b ∨ a = c ∨ a = d then 1 else 0
def Q2 (a b c d : Addr) (h0 : Heap) (n0 : Nat) (v : Option Value) (h : Heap) (L : List Loc) : Prop := v = some (.int (own_sn a b c d)) ∧ Fr n0 L ∧ h = h0
def Q0 (n0 : Nat) (v : Option Value) (h : Heap) (L : List Loc) : Prop := v = some (.int (1 : Int32)) ∧ Fr n0 L
theorem ef_1 (m : MethodId) (c1 : Int32) : entryFrame m #[(.int c1)] 1 = mkF m 0 #[.val (.int c1)] [] := by first | (simp [entryFrame, mkF, argsToLocals, Value.category]; done) | rfl
set_option maxRecDepth 65536 in
set_option maxHeartbeats 40000000 in
theorem rm1 (l : Launch) (Z : State) (a0 : Array Value) (hw : ∀ d ∈ tables_1, d.before a0 Z = true) (ws : List Jvm.Cond) (c1 : Int32) (a1 : Addr) (a_NAME : Addr) (a_URI_QUALIFIED_NAME : Addr) (a_BRACED_URI_LITERAL : Addr) (a_INTEGER : Addr) (a_DECIMAL : Addr) (a_DOUBLE : Addr) (a_STRING : Addr) (a_SYMBOL : Addr) (a_PREDEFINED_ENTITY_REF : Addr) (a_CHAR_REF : Addr) (a_ESCAPE_QUOT : Addr) (a_ESCAPE_APOS : Addr) (a_ELEMENT_CONTENT_CHAR : Addr) (a_QUOT_ATTR_CONTENT_CHAR : Addr) (a_APOS_ATTR_CONTENT_CHAR : Addr) (a_DIR_COMMENT_CONTENTS : Addr) (a_DIR_PI_CONTENTS : Addr) (a_CDATA_SECTION_CONTENTS : Addr) (a_PRAGMA_CONTENTS : Addr) (a_STRING_CONSTRUCTOR_CHARS : Addr) (a_END : Addr) (h0 : Heap) (n0 : Nat) (Z0 : n0 ≤ h0.size) (S_NAME : Sta Z h0 "com/example/quelex/quelex/Lexeme$Kind" "NAME" "Lcom/example/quelex/quelex/Lexeme$Kind;" (.ref a_NAME)) (S_URI_QUALIFIED_NAME : Sta Z h0 "com/example/quelex/quelex/Lexeme$Kind" "URI_QUALIFIED_NAME" "Lcom/example/quelex/quelex/Lexeme$Kind;" (.ref a_URI_QUALIFIED_NAME)) (S_BRACED_URI_LITERAL : Sta Z h0 "com/example/quelex/quelex/Lexeme$Kind" "BRACED_URI_LITERAL" "Lcom/example/quelex/quelex/Lexeme$Kind;" (.ref a_BRACED_URI_LITERAL)) (S_INTEGER : Sta Z h0 "com/example/quelex/quelex/Lexeme$Kind" "INTEGER" "Lcom/example/quelex/quelex/Lexeme$Kind;" (.ref a_INTEGER)) (S_DECIMAL : Sta Z h0 "com/example/quelex/quelex/Lexeme$Kind" "DECIMAL" "Lcom/example/quelex/quelex/Lexeme$Kind;" (.ref a_DECIMAL)) (S_DOUBLE : Sta Z h0 "com/example/quelex/quelex/Lexeme$Kind" "DOUBLE" "Lcom/example/quelex/quelex/Lexeme$Kind;" (.ref a_DOUBLE)) (S_STRING : Sta Z h0 "com/example/quelex/quelex/Lexeme$Kind" "STRING" "Lcom/example/quelex/quelex/Lexeme$Kind;" (.ref a_STRING)) (S_SYMBOL : Sta Z h0 "com/example/quelex/quelex/Lexeme$Kind" "SYMBOL" "Lcom/example/quelex/quelex/Lexeme$Kind;" (.ref a_SYMBOL)) (S_PREDEFINED_ENTITY_REF : Sta Z h0 "com/example/quelex/quelex/Lexeme$Kind" "PREDEFINED_ENTITY_REF" "Lcom/example/quelex/quelex/Lexeme$Kind;" (.ref a_PREDEFINED_ENTITY_REF)) (S_CHAR_REF : Sta Z h0 "com/example/quelex/quelex/Lexeme$Kind" "CHAR_REF" "Lcom/example/quelex/quelex/Lexeme$Kind;" (.ref a_CHAR_REF)) (S_ESCAPE_QUOT : Sta Z h0 "com/example/quelex/quelex/Lexeme$Kind" "ESCAPE_QUOT" "Lcom/example/quelex/quelex/Lexeme$Kind;" (.ref a_ESCAPE_QUOT)) (S_ESCAPE_APOS : Sta Z h0 "com/example/quelex/quelex/Lexeme$Kind" "ESCAPE_APOS" "Lcom/example/quelex/quelex/Lexeme$Kind;" (.ref a_ESCAPE_APOS)) (S_ELEMENT_CONTENT_CHAR : Sta Z h0 "com/example/quelex/quelex/Lexeme$Kind" "ELEMENT_CONTENT_CHAR" "Lcom/example/quelex/quelex/Lexeme$Kind;" (.ref a_ELEMENT_CONTENT_CHAR)) (S_QUOT_ATTR_CONTENT_CHAR : Sta Z h0 "com/example/quelex/quelex/Lexeme$Kind" "QUOT_ATTR_CONTENT_CHAR" "Lcom/example/quelex/quelex/Lexeme$Kind;" (.ref a_QUOT_ATTR_CONTENT_CHAR)) (S_APOS_ATTR_CONTENT_CHAR : Sta Z h0 "com/example/quelex/quelex/Lexeme$Kind" "APOS_ATTR_CONTENT_CHAR" "Lcom/example/quelex/quelex/Lexeme$Kind;" (.ref a_APOS_ATTR_CONTENT_CHAR)) (S_DIR_COMMENT_CONTENTS : Sta Z h0 "com/example/quelex/quelex/Lexeme$Kind" "DIR_COMMENT_CONTENTS" "Lcom/example/quelex/quelex/Lexeme$Kind;" (.ref a_DIR_COMMENT_CONTENTS)) (S_DIR_PI_CONTENTS : Sta Z h0 "com/example/quelex/quelex/Lexeme$Kind" "DIR_PI_CONTENTS" "Lcom/example/quelex/quelex/Lexeme$Kind;" (.ref a_DIR_PI_CONTENTS)) (S_CDATA_SECTION_CONTENTS : Sta Z h0 "com/example/quelex/quelex/Lexeme$Kind" "CDATA_SECTION_CONTENTS" "Lcom/example/quelex/quelex/Lexeme$Kind;" (.ref a_CDATA_SECTION_CONTENTS)) (S_PRAGMA_CONTENTS : Sta Z h0 "com/example/quelex/quelex/Lexeme$Kind" "PRAGMA_CONTENTS" "Lcom/example/quelex/quelex/Lexeme$Kind;" (.ref a_PRAGMA_CONTENTS)) (S_STRING_CONSTRUCTOR_CHARS : Sta Z h0 "com/example/quelex/quelex/Lexeme$Kind" "STRING_CONSTRUCTOR_CHARS" "Lcom/example/quelex/quelex/Lexeme$Kind;" (.ref a_STRING_CONSTRUCTOR_CHARS)) (S_END : Sta Z h0 "com/example/quelex/quelex/Lexeme$Kind" "END" "Lcom/example/quelex/quelex/Lexeme$Kind;" (.ref a_END)) (hsel : (c1 = 0 ∧ a1 = a_NAME) ∨ (c1 = 1 ∧ a1 = a_URI_QUALIFIED_NAME) ∨ (c1 = 2 ∧ a1 = a_BRACED_URI_LITERAL) ∨ (c1 = 3 ∧ a1 = a_INTEGER) ∨ (c1 = 4 ∧ a1 = a_DECIMAL) ∨ (c1 = 5 ∧ a1 = a_DOUBLE) ∨ (c1 = 6 ∧ a1 = a_STRING) ∨ (c1 = 7 ∧ a1 = a_SYMBOL) ∨ (c1 = 8 ∧ a1 = a_PREDEFINED_ENTITY_REF) ∨ (c1 = 9 ∧ a1 = a_CHAR_REF) ∨ (c1 = 10 ∧ a1 = a_ESCAPE_QUOT) ∨ (c1 = 11 ∧ a1 = a_ESCAPE_APOS) ∨ (c1 = 12 ∧ a1 = a_ELEMENT_CONTENT_CHAR) ∨ (c1 = 13 ∧ a1 = a_QUOT_ATTR_CONTENT_CHAR) ∨ (c1 = 14 ∧ a1 = a_APOS_ATTR_CONTENT_CHAR) ∨ (c1 = 15 ∧ a1 = a_DIR_COMMENT_CONTENTS) ∨ (c1 = 16 ∧ a1 = a_DIR_PI_CONTENTS) ∨ (c1 = 17 ∧ a1 = a_CDATA_SECTION_CONTENTS) ∨ (c1 = 18 ∧ a1 = a_PRAGMA_CONTENTS) ∨ (c1 = 19 ∧ a1 = a_STRING_CONSTRUCTOR_CHARS) ∨ (c1 = 20 ∧ a1 = a_END)) :
    MetFree l (⟨"com/example/quelex/quelex/KindStartsAsNamePinLaw", "kindAt", "(I)Lcom/example/quelex/quelex/Lexeme$Kind;"⟩ : MethodName) (head1 (Jvm.Cond.code (⟨"com/example/quelex/quelex/KindStartsAsNamePinLaw", "kindAt", "(I)Lcom/example/quelex/quelex/Lexeme$Kind;"⟩ : MethodName) method_2_code 1 (some (.object "com/example/quelex/quelex/Lexeme$Kind")) :: ws) ({ frames := 0, cells := 0, slots := 0, locals := 0 } : Room)) (fun a U => a = #[(.int c1)] ∧ Z.Warmed39 U.vm ∧ U.heap = h0) (fun _ _ _ _ _ => True) (fun _ U o U' => ∃ v L, o = .returned v ∧ Q1 a1 h0 n0 v U'.heap L ∧ FrameEnd U o U' L ({ frames := 0, cells := 0, slots := 0, locals := 0 } : Room).cells ({ frames := 0, cells := 0, slots := 0, locals := 0 } : Room).slots) := by
  refine MetFree.of_bodySF (plainFor_of_name pn_0) hisR ?_
  intro p e s m args below meth c s₁ Bd hml0 hP hK
  obtain ⟨rfl, hZ, hh⟩ := hP
  have hx := Bd.exec
  have hby := Bd.bytes
  have hml : c.maxLocals = 1 := hml0
  have hown : s.vm.findClass "com/example/quelex/quelex/KindStartsAsNamePinLaw" = some m.cls := findClass_of_methodNamed Bd.named
  have hnm := (name_of_methodNamed Bd.named Bd.method).1
  have hlk : meth.locks = false := BodyLoose.notSynchronized Bd
  have X0 : Stand p l e ({ frames := 0, cells := 0, slots := 0, locals := 0 } : Room) s m #[(.int c1)] below meth c s₁ [] 0 0 := Stand.of_body Bd
  have e0 : s₁.heap = h0 := by rw [← hh, Bd.state]; rfl
  have N0 := Fr.nil n0
  refine own_start (Q := Q1 a1 h0 n0) (ef_1 m c1) ?_
  rcases hsel with ⟨rfl, ha⟩ | ⟨rfl, ha⟩ | ⟨rfl, ha⟩ | ⟨rfl, ha⟩ | ⟨rfl, ha⟩ | ⟨rfl, ha⟩ | ⟨rfl, ha⟩ | ⟨rfl, ha⟩ | ⟨rfl, ha⟩ | ⟨rfl, ha⟩ | ⟨rfl, ha⟩ | ⟨rfl, ha⟩ | ⟨rfl, ha⟩ | ⟨rfl, ha⟩ | ⟨rfl, ha⟩ | ⟨rfl, ha⟩ | ⟨rfl, ha⟩ | ⟨rfl, ha⟩ | ⟨rfl, ha⟩ | ⟨rfl, ha⟩ | ⟨rfl, ha⟩
  · show own_Go p e below _ s₁ (mkF m 0 #[.val (.int (0 : Int32))] [])
    refine own_by (fun t_ k_ => XS.iloadN X0.here hx rfl (hb hby d1_0) rfl k_) ?_
    show own_Go p e below _ s₁ (mkF m 1 #[.val (.int (0 : Int32))] [(.int (0 : Int32))])
    refine own_by (fun t_ k_ => XS.tswIn X0.here hx rfl (pc0 := 1) (pc' := 96) (o := 95) rfl (hb hby d1_1) rfl (by decide) (by decide) (by decide) (by decide) k_) ?_
    show own_Go p e below _ s₁ (mkF m 96 #[.val (.int (0 : Int32))] [])
    refine own_getS X0 hx hZ hown (hw _ (List.mem_of_getElem? (i := 5) rfl)) Via.refl e0 S_NAME (hb hby d1_96) ?_
    intro T1 X1 e1
    show own_Go p e below _ T1 (mkF m 99 #[.val (.int (0 : Int32))] [(.ref a_NAME)])
    refine own_retR X1 hx hlk Bd.returns rfl rfl rfl (hb hby d1_99) e1 (by decide) (by decide) ?_
    exact ⟨by rw [ha], N0, rfl⟩
  · show own_Go p e below _ s₁ (mkF m 0 #[.val (.int (1 : Int32))] [])
    refine own_by (fun t_ k_ => XS.iloadN X0.here hx rfl (hb hby d1_0) rfl k_) ?_
    show own_Go p e below _ s₁ (mkF m 1 #[.val (.int (1 : Int32))] [(.int (1 : Int32))])
    refine own_by (fun t_ k_ => XS.tswIn X0.here hx rfl (pc0 := 1) (pc' := 100) (o := 99) rfl (hb hby d1_1) rfl (by decide) (by decide) (by decide) (by decide) k_) ?_
    show own_Go p e below _ s₁ (mkF m 100 #[.val (.int (1 : Int32))] [])
    refine own_getS X0 hx hZ hown (hw _ (List.mem_of_getElem? (i := 35) rfl)) Via.refl e0 S_URI_QUALIFIED_NAME (hb hby d1_100) ?_
    intro T2 X2 e2
    show own_Go p e below _ T2 (mkF m 103 #[.val (.int (1 : Int32))] [(.ref a_URI_QUALIFIED_NAME)])
    refine own_retR X2 hx hlk Bd.returns rfl rfl rfl (hb hby d1_103) e2 (by decide) (by decide) ?_
    exact ⟨by rw [ha], N0, rfl⟩
  · show own_Go p e below _ s₁ (mkF m 0 #[.val (.int (2 : Int32))] [])
    refine own_by (fun t_ k_ => XS.iloadN X0.here hx rfl (hb hby d1_0) rfl k_) ?_
    show own_Go p e below _ s₁ (mkF m 1 #[.val (.int (2 : Int32))] [(.int (2 : Int32))])
    refine own_by (fun t_ k_ => XS.tswIn X0.here hx rfl (pc0 := 1) (pc' := 104) (o := 103) rfl (hb hby d1_1) rfl (by decide) (by decide) (by decide) (by decide) k_) ?_
    show own_Go p e below _ s₁ (mkF m 104 #[.val (.int (2 : Int32))] [])
    refine own_getS X0 hx hZ hown (hw _ (List.mem_of_getElem? (i := 30) rfl)) Via.refl e0 S_BRACED_URI_LITERAL (hb hby d1_104) ?_
    intro T3 X3 e3
    show own_Go p e below _ T3 (mkF m 107 #[.val (.int (2 : Int32))] [(.ref a_BRACED_URI_LITERAL)])
    refine own_retR X3 hx hlk Bd.returns rfl rfl rfl (hb hby d1_107) e3 (by decide) (by decide) ?_
    exact ⟨by rw [ha], N0, rfl⟩
  · show own_Go p e below _ s₁ (mkF m 0 #[.val (.int (3 : Int32))] [])
    refine own_by (fun t_ k_ => XS.iloadN X0.here hx rfl (hb hby d1_0) rfl k_) ?_
    show own_Go p e below _ s₁ (mkF m 1 #[.val (.int (3 : Int32))] [(.int (3 : Int32))])
    refine own_by (fun t_ k_ => XS.tswIn X0.here hx rfl (pc0 := 1) (pc' := 108) (o := 107) rfl (hb hby d1_1) rfl (by decide) (by decide) (by decide) (by decide) k_) ?_
    show own_Go p e below _ s₁ (mkF m 108 #[.val (.int (3 : Int32))] [])
    refine own_getS X0 hx hZ hown (hw _ (List.mem_of_getElem? (i := 14) rfl)) Via.refl e0 S_INTEGER (hb hby d1_108) ?_
    intro T4 X4 e4
    show own_Go p e below _ T4 (mkF m 111 #[.val (.int (3 : Int32))] [(.ref a_INTEGER)])
    refine own_retR X4 hx hlk Bd.returns rfl rfl rfl (hb hby d1_111) e4 (by decide) (by decide) ?_
    exact ⟨by rw [ha], N0, rfl⟩
  · show own_Go p e below _ s₁ (mkF m 0 #[.val (.int (4 : Int32))] [])
    refine own_by (fun t_ k_ => XS.iloadN X0.here hx rfl (hb hby d1_0) rfl k_) ?_
    show own_Go p e below _ s₁ (mkF m 1 #[.val (.int (4 : Int32))] [(.int (4 : Int32))])
    refine own_by (fun t_ k_ => XS.tswIn X0.here hx rfl (pc0 := 1) (pc' := 112) (o := 111) rfl (hb hby d1_1) rfl (by decide) (by decide) (by decide) (by decide) k_) ?_
    show own_Go p e below _ s₁ (mkF m 112 #[.val (.int (4 : Int32))] [])
    refine own_getS X0 hx hZ hown (hw _ (List.mem_of_getElem? (i := 50) rfl)) Via.refl e0 S_DECIMAL (hb hby d1_112) ?_
    intro T5 X5 e5
    show own_Go p e below _ T5 (mkF m 115 #[.val (.int (4 : Int32))] [(.ref a_DECIMAL)])
    refine own_retR X5 hx hlk Bd.returns rfl rfl rfl (hb hby d1_115) e5 (by decide) (by decide) ?_
    exact ⟨by rw [ha], N0, rfl⟩
  · show own_Go p e below _ s₁ (mkF m 0 #[.val (.int (5 : Int32))] [])
    refine own_by (fun t_ k_ => XS.iloadN X0.here hx rfl (hb hby d1_0) rfl k_) ?_
    show own_Go p e below _ s₁ (mkF m 1 #[.val (.int (5 : Int32))] [(.int (5 : Int32))])
    refine own_by (fun t_ k_ => XS.tswIn X0.here hx rfl (pc0 := 1) (pc' := 116) (o := 115) rfl (hb hby d1_1) rfl (by decide) (by decide) (by decide) (by decide) k_) ?_
    show own_Go p e below _ s₁ (mkF m 116 #[.val (.int (5 : Int32))] [])
    refine own_getS X0 hx hZ hown (hw _ (List.mem_of_getElem? (i := 20) rfl)) Via.refl e0 S_DOUBLE (hb hby d1_116) ?_
    intro T6 X6 e6
    show own_Go p e below _ T6 (mkF m 119 #[.val (.int (5 : Int32))] [(.ref a_DOUBLE)])
    refine own_retR X6 hx hlk Bd.returns rfl rfl rfl (hb hby d1_119) e6 (by decide) (by decide) ?_
    exact ⟨by rw [ha], N0, rfl⟩
  · show own_Go p e below _ s₁ (mkF m 0 #[.val (.int (6 : Int32))] [])
    refine own_by (fun t_ k_ => XS.iloadN X0.here hx rfl (hb hby d1_0) rfl k_) ?_
    show own_Go p e below _ s₁ (mkF m 1 #[.val (.int (6 : Int32))] [(.int (6 : Int32))])
    refine own_by (fun t_ k_ => XS.tswIn X0.here hx rfl (pc0 := 1) (pc' := 120) (o := 119) rfl (hb hby d1_1) rfl (by decide) (by decide) (by decide) (by decide) k_) ?_
    show own_Go p e below _ s₁ (mkF m 120 #[.val (.int (6 : Int32))] [])
    refine own_getS X0 hx hZ hown (hw _ (List.mem_of_getElem? (i := 24) rfl)) Via.refl e0 S_STRING (hb hby d1_120) ?_
    intro T7 X7 e7
    show own_Go p e below _ T7 (mkF m 123 #[.val (.int (6 : Int32))] [(.ref a_STRING)])
    refine own_retR X7 hx hlk Bd.returns rfl rfl rfl (hb hby d1_123) e7 (by decide) (by decide) ?_
    exact ⟨by rw [ha], N0, rfl⟩
  · show own_Go p e below _ s₁ (mkF m 0 #[.val (.int (7 : Int32))] [])
    refine own_by (fun t_ k_ => XS.iloadN X0.here hx rfl (hb hby d1_0) rfl k_) ?_
    show own_Go p e below _ s₁ (mkF m 1 #[.val (.int (7 : Int32))] [(.int (7 : Int32))])
    refine own_by (fun t_ k_ => XS.tswIn X0.here hx rfl (pc0 := 1) (pc' := 124) (o := 123) rfl (hb hby d1_1) rfl (by decide) (by decide) (by decide) (by decide) k_) ?_
    show own_Go p e below _ s₁ (mkF m 124 #[.val (.int (7 : Int32))] [])
    refine own_getS X0 hx hZ hown (hw _ (List.mem_of_getElem? (i := 28) rfl)) Via.refl e0 S_SYMBOL (hb hby d1_124) ?_
    intro T8 X8 e8
    show own_Go p e below _ T8 (mkF m 127 #[.val (.int (7 : Int32))] [(.ref a_SYMBOL)])
    refine own_retR X8 hx hlk Bd.returns rfl rfl rfl (hb hby d1_127) e8 (by decide) (by decide) ?_
    exact ⟨by rw [ha], N0, rfl⟩
  · show own_Go p e below _ s₁ (mkF m 0 #[.val (.int (8 : Int32))] [])
    refine own_by (fun t_ k_ => XS.iloadN X0.here hx rfl (hb hby d1_0) rfl k_) ?_
    show own_Go p e below _ s₁ (mkF m 1 #[.val (.int (8 : Int32))] [(.int (8 : Int32))])
    refine own_by (fun t_ k_ => XS.tswIn X0.here hx rfl (pc0 := 1) (pc' := 128) (o := 127) rfl (hb hby d1_1) rfl (by decide) (by decide) (by decide) (by decide) k_) ?_
    show own_Go p e below _ s₁ (mkF m 128 #[.val (.int (8 : Int32))] [])
    refine own_getS X0 hx hZ hown (hw _ (List.mem_of_getElem? (i := 33) rfl)) Via.refl e0 S_PREDEFINED_ENTITY_REF (hb hby d1_128) ?_
    intro T9 X9 e9
    show own_Go p e below _ T9 (mkF m 131 #[.val (.int (8 : Int32))] [(.ref a_PREDEFINED_ENTITY_REF)])
    refine own_retR X9 hx hlk Bd.returns rfl rfl rfl (hb hby d1_131) e9 (by decide) (by decide) ?_
    exact ⟨by rw [ha], N0, rfl⟩
  · show own_Go p e below _ s₁ (mkF m 0 #[.val (.int (9 : Int32))] [])
    refine own_by (fun t_ k_ => XS.iloadN X0.here hx rfl (hb hby d1_0) rfl k_) ?_
    show own_Go p e below _ s₁ (mkF m 1 #[.val (.int (9 : Int32))] [(.int (9 : Int32))])
    refine own_by (fun t_ k_ => XS.tswIn X0.here hx rfl (pc0 := 1) (pc' := 132) (o := 131) rfl (hb hby d1_1) rfl (by decide) (by decide) (by decide) (by decide) k_) ?_
    show own_Go p e below _ s₁ (mkF m 132 #[.val (.int (9 : Int32))] [])
    refine own_getS X0 hx hZ hown (hw _ (List.mem_of_getElem? (i := 40) rfl)) Via.refl e0 S_CHAR_REF (hb hby d1_132) ?_
    intro T10 X10 e10
    show own_Go p e below _ T10 (mkF m 135 #[.val (.int (9 : Int32))] [(.ref a_CHAR_REF)])
    refine own_retR X10 hx hlk Bd.returns rfl rfl rfl (hb hby d1_135) e10 (by decide) (by decide) ?_
    exact ⟨by rw [ha], N0, rfl⟩
  · show own_Go p e below _ s₁ (mkF m 0 #[.val (.int (10 : Int32))] [])
    refine own_by (fun t_ k_ => XS.iloadN X0.here hx rfl (hb hby d1_0) rfl k_) ?_
    show own_Go p e below _ s₁ (mkF m 1 #[.val (.int (10 : Int32))] [(.int (10 : Int32))])
    refine own_by (fun t_ k_ => XS.tswIn X0.here hx rfl (pc0 := 1) (pc' := 136) (o := 135) rfl (hb hby d1_1) rfl (by decide) (by decide) (by decide) (by decide) k_) ?_
    show own_Go p e below _ s₁ (mkF m 136 #[.val (.int (10 : Int32))] [])
    refine own_getS X0 hx hZ hown (hw _ (List.mem_of_getElem? (i := 31) rfl)) Via.refl e0 S_ESCAPE_QUOT (hb hby d1_136) ?_
    intro T11 X11 e11
    show own_Go p e below _ T11 (mkF m 139 #[.val (.int (10 : Int32))] [(.ref a_ESCAPE_QUOT)])
    refine own_retR X11 hx hlk Bd.returns rfl rfl rfl (hb hby d1_139) e11 (by decide) (by decide) ?_
    exact ⟨by rw [ha], N0, rfl⟩
  · show own_Go p e below _ s₁ (mkF m 0 #[.val (.int (11 : Int32))] [])
    refine own_by (fun t_ k_ => XS.iloadN X0.here hx rfl (hb hby d1_0) rfl k_) ?_
    show own_Go p e below _ s₁ (mkF m 1 #[.val (.int (11 : Int32))] [(.int (11 : Int32))])
    refine own_by (fun t_ k_ => XS.tswIn X0.here hx rfl (pc0 := 1) (pc' := 140) (o := 139) rfl (hb hby d1_1) rfl (by decide) (by decide) (by decide) (by decide) k_) ?_
    show own_Go p e below _ s₁ (mkF m 140 #[.val (.int (11 : Int32))] [])
    refine own_getS X0 hx hZ hown (hw _ (List.mem_of_getElem? (i := 26) rfl)) Via.refl e0 S_ESCAPE_APOS (hb hby d1_140) ?_
    intro T12 X12 e12
    show own_Go p e below _ T12 (mkF m 143 #[.val (.int (11 : Int32))] [(.ref a_ESCAPE_APOS)])
    refine own_retR X12 hx hlk Bd.returns rfl rfl rfl (hb hby d1_143) e12 (by decide) (by decide) ?_
    exact ⟨by rw [ha], N0, rfl⟩
  · show own_Go p e below _ s₁ (mkF m 0 #[.val (.int (12 : Int32))] [])
    refine own_by (fun t_ k_ => XS.iloadN X0.here hx rfl (hb hby d1_0) rfl k_) ?_
    show own_Go p e below _ s₁ (mkF m 1 #[.val (.int (12 : Int32))] [(.int (12 : Int32))])
    refine own_by (fun t_ k_ => XS.tswIn X0.here hx rfl (pc0 := 1) (pc' := 144) (o := 143) rfl (hb hby d1_1) rfl (by decide) (by decide) (by decide) (by decide) k_) ?_
    show own_Go p e below _ s₁ (mkF m 144 #[.val (.int (12 : Int32))] [])
    refine own_getS X0 hx hZ hown (hw _ (List.mem_of_getElem? (i := 52) rfl)) Via.refl e0 S_ELEMENT_CONTENT_CHAR (hb hby d1_144) ?_
    intro T13 X13 e13
    show own_Go p e below _ T13 (mkF m 147 #[.val (.int (12 : Int32))] [(.ref a_ELEMENT_CONTENT_CHAR)])
    refine own_retR X13 hx hlk Bd.returns rfl rfl rfl (hb hby d1_147) e13 (by decide) (by decide) ?_
    exact ⟨by rw [ha], N0, rfl⟩
  · show own_Go p e below _ s₁ (mkF m 0 #[.val (.int (13 : Int32))] [])
    refine own_by (fun t_ k_ => XS.iloadN X0.here hx rfl (hb hby d1_0) rfl k_) ?_
    show own_Go p e below _ s₁ (mkF m 1 #[.val (.int (13 : Int32))] [(.int (13 : Int32))])
    refine own_by (fun t_ k_ => XS.tswIn X0.here hx rfl (pc0 := 1) (pc' := 148) (o := 147) rfl (hb hby d1_1) rfl (by decide) (by decide) (by decide) (by decide) k_) ?_
    show own_Go p e below _ s₁ (mkF m 148 #[.val (.int (13 : Int32))] [])
    refine own_getS X0 hx hZ hown (hw _ (List.mem_of_getElem? (i := 22) rfl)) Via.refl e0 S_QUOT_ATTR_CONTENT_CHAR (hb hby d1_148) ?_
    intro T14 X14 e14
    show own_Go p e below _ T14 (mkF m 151 #[.val (.int (13 : Int32))] [(.ref a_QUOT_ATTR_CONTENT_CHAR)])
    refine own_retR X14 hx hlk Bd.returns rfl rfl rfl (hb hby d1_151) e14 (by decide) (by decide) ?_
    exact ⟨by rw [ha], N0, rfl⟩
  · show own_Go p e below _ s₁ (mkF m 0 #[.val (.int (14 : Int32))] [])
    refine own_by (fun t_ k_ => XS.iloadN X0.here hx rfl (hb hby d1_0) rfl k_) ?_
    show own_Go p e below _ s₁ (mkF m 1 #[.val (.int (14 : Int32))] [(.int (14 : Int32))])
    refine own_by (fun t_ k_ => XS.tswIn X0.here hx rfl (pc0 := 1) (pc' := 152) (o := 151) rfl (hb hby d1_1) rfl (by decide) (by decide) (by decide) (by decide) k_) ?_
    show own_Go p e below _ s₁ (mkF m 152 #[.val (.int (14 : Int32))] [])
    refine own_getS X0 hx hZ hown (hw _ (List.mem_of_getElem? (i := 36) rfl)) Via.refl e0 S_APOS_ATTR_CONTENT_CHAR (hb hby d1_152) ?_
    intro T15 X15 e15
    show own_Go p e below _ T15 (mkF m 155 #[.val (.int (14 : Int32))] [(.ref a_APOS_ATTR_CONTENT_CHAR)])
    refine own_retR X15 hx hlk Bd.returns rfl rfl rfl (hb hby d1_155) e15 (by decide) (by decide) ?_
    exact ⟨by rw [ha], N0, rfl⟩
  · show own_Go p e below _ s₁ (mkF m 0 #[.val (.int (15 : Int32))] [])
    refine own_by (fun t_ k_ => XS.iloadN X0.here hx rfl (hb hby d1_0) rfl k_) ?_
    show own_Go p e below _ s₁ (mkF m 1 #[.val (.int (15 : Int32))] [(.int (15 : Int32))])
    refine own_by (fun t_ k_ => XS.tswIn X0.here hx rfl (pc0 := 1) (pc' := 156) (o := 155) rfl (hb hby d1_1) rfl (by decide) (by decide) (by decide) (by decide) k_) ?_
    show own_Go p e below _ s₁ (mkF m 156 #[.val (.int (15 : Int32))] [])
    refine own_getS X0 hx hZ hown (hw _ (List.mem_of_getElem? (i := 38) rfl)) Via.refl e0 S_DIR_COMMENT_CONTENTS (hb hby d1_156) ?_
    intro T16 X16 e16
    show own_Go p e below _ T16 (mkF m 159 #[.val (.int (15 : Int32))] [(.ref a_DIR_COMMENT_CONTENTS)])
    refine own_retR X16 hx hlk Bd.returns rfl rfl rfl (hb hby d1_159) e16 (by decide) (by decide) ?_
    exact ⟨by rw [ha], N0, rfl⟩
  · show own_Go p e below _ s₁ (mkF m 0 #[.val (.int (16 : Int32))] [])
    refine own_by (fun t_ k_ => XS.iloadN X0.here hx rfl (hb hby d1_0) rfl k_) ?_
    show own_Go p e below _ s₁ (mkF m 1 #[.val (.int (16 : Int32))] [(.int (16 : Int32))])
    refine own_by (fun t_ k_ => XS.tswIn X0.here hx rfl (pc0 := 1) (pc' := 160) (o := 159) rfl (hb hby d1_1) rfl (by decide) (by decide) (by decide) (by decide) k_) ?_
    show own_Go p e below _ s₁ (mkF m 160 #[.val (.int (16 : Int32))] [])
    refine own_getS X0 hx hZ hown (hw _ (List.mem_of_getElem? (i := 44) rfl)) Via.refl e0 S_DIR_PI_CONTENTS (hb hby d1_160) ?_
    intro T17 X17 e17
    show own_Go p e below _ T17 (mkF m 163 #[.val (.int (16 : Int32))] [(.ref a_DIR_PI_CONTENTS)])
    refine own_retR X17 hx hlk Bd.returns rfl rfl rfl (hb hby d1_163) e17 (by decide) (by decide) ?_
    exact ⟨by rw [ha], N0, rfl⟩
  · show own_Go p e below _ s₁ (mkF m 0 #[.val (.int (17 : Int32))] [])
    refine own_by (fun t_ k_ => XS.iloadN X0.here hx rfl (hb hby d1_0) rfl k_) ?_
    show own_Go p e below _ s₁ (mkF m 1 #[.val (.int (17 : Int32))] [(.int (17 : Int32))])
    refine own_by (fun t_ k_ => XS.tswIn X0.here hx rfl (pc0 := 1) (pc' := 164) (o := 163) rfl (hb hby d1_1) rfl (by decide) (by decide) (by decide) (by decide) k_) ?_
    show own_Go p e below _ s₁ (mkF m 164 #[.val (.int (17 : Int32))] [])
    refine own_getS X0 hx hZ hown (hw _ (List.mem_of_getElem? (i := 46) rfl)) Via.refl e0 S_CDATA_SECTION_CONTENTS (hb hby d1_164) ?_
    intro T18 X18 e18
    show own_Go p e below _ T18 (mkF m 167 #[.val (.int (17 : Int32))] [(.ref a_CDATA_SECTION_CONTENTS)])
    refine own_retR X18 hx hlk Bd.returns rfl rfl rfl (hb hby d1_167) e18 (by decide) (by decide) ?_
    exact ⟨by rw [ha], N0, rfl⟩
  · show own_Go p e below _ s₁ (mkF m 0 #[.val (.int (18 : Int32))] [])
    refine own_by (fun t_ k_ => XS.iloadN X0.here hx rfl (hb hby d1_0) rfl k_) ?_
    show own_Go p e below _ s₁ (mkF m 1 #[.val (.int (18 : Int32))] [(.int (18 : Int32))])
    refine own_by (fun t_ k_ => XS.tswIn X0.here hx rfl (pc0 := 1) (pc' := 168) (o := 167) rfl (hb hby d1_1) rfl (by decide) (by decide) (by decide) (by decide) k_) ?_
    show own_Go p e below _ s₁ (mkF m 168 #[.val (.int (18 : Int32))] [])
    refine own_getS X0 hx hZ hown (hw _ (List.mem_of_getElem? (i := 54) rfl)) Via.refl e0 S_PRAGMA_CONTENTS (hb hby d1_168) ?_
    intro T19 X19 e19
    show own_Go p e below _ T19 (mkF m 171 #[.val (.int (18 : Int32))] [(.ref a_PRAGMA_CONTENTS)])
    refine own_retR X19 hx hlk Bd.returns rfl rfl rfl (hb hby d1_171) e19 (by decide) (by decide) ?_
    exact ⟨by rw [ha], N0, rfl⟩
  · show own_Go p e below _ s₁ (mkF m 0 #[.val (.int (19 : Int32))] [])
    refine own_by (fun t_ k_ => XS.iloadN X0.here hx rfl (hb hby d1_0) rfl k_) ?_
    show own_Go p e below _ s₁ (mkF m 1 #[.val (.int (19 : Int32))] [(.int (19 : Int32))])
    refine own_by (fun t_ k_ => XS.tswIn X0.here hx rfl (pc0 := 1) (pc' := 172) (o := 171) rfl (hb hby d1_1) rfl (by decide) (by decide) (by decide) (by decide) k_) ?_
    show own_Go p e below _ s₁ (mkF m 172 #[.val (.int (19 : Int32))] [])
    refine own_getS X0 hx hZ hown (hw _ (List.mem_of_getElem? (i := 42) rfl)) Via.refl e0 S_STRING_CONSTRUCTOR_CHARS (hb hby d1_172) ?_
    intro T20 X20 e20
    show own_Go p e below _ T20 (mkF m 175 #[.val (.int (19 : Int32))] [(.ref a_STRING_CONSTRUCTOR_CHARS)])
    refine own_retR X20 hx hlk Bd.returns rfl rfl rfl (hb hby d1_175) e20 (by decide) (by decide) ?_
    exact ⟨by rw [ha], N0, rfl⟩
  · show own_Go p e below _ s₁ (mkF m 0 #[.val (.int (20 : Int32))] [])
    refine own_by (fun t_ k_ => XS.iloadN X0.here hx rfl (hb hby d1_0) rfl k_) ?_
    show own_Go p e below _ s₁ (mkF m 1 #[.val (.int (20 : Int32))] [(.int (20 : Int32))])
    refine own_by (fun t_ k_ => XS.tswOut X0.here hx rfl (pc0 := 1) (pc' := 176) rfl (hb hby d1_1) rfl (by decide) (by decide) (by decide) k_) ?_
    show own_Go p e below _ s₁ (mkF m 176 #[.val (.int (20 : Int32))] [])
    refine own_getS X0 hx hZ hown (hw _ (List.mem_of_getElem? (i := 48) rfl)) Via.refl e0 S_END (hb hby d1_176) ?_
    intro T21 X21 e21
    show own_Go p e below _ T21 (mkF m 179 #[.val (.int (20 : Int32))] [(.ref a_END)])
    refine own_retR X21 hx hlk Bd.returns rfl rfl rfl (hb hby d1_179) e21 (by decide) (by decide) ?_
    exact ⟨by rw [ha], N0, rfl⟩
theorem ef_2 (m : MethodId) (a1 : Addr) : entryFrame m #[(.ref a1)] 1 = mkF m 0 #[.val (.ref a1)] [] := by first | (simp [entryFrame, mkF, argsToLocals, Value.category]; done) | rfl
set_option maxRecDepth 65536 in
set_option maxHeartbeats 40000000 in
theorem rm2 (l : Launch) (Z : State) (a0 : Array Value) (hw : ∀ d ∈ tables_1, d.before a0 Z = true) (ws : List Jvm.Cond) (a1 : Addr) (a_NAME : Addr) (a_URI_QUALIFIED_NAME : Addr) (a_BRACED_URI_LITERAL : Addr) (h0 : Heap) (n0 : Nat) (Z0 : n0 ≤ h0.size) (S_NAME : Sta Z h0 "com/example/quelex/quelex/Lexeme$Kind" "NAME" "Lcom/example/quelex/quelex/Lexeme$Kind;" (.ref a_NAME)) (S_URI_QUALIFIED_NAME : Sta Z h0 "com/example/quelex/quelex/Lexeme$Kind" "URI_QUALIFIED_NAME" "Lcom/example/quelex/quelex/Lexeme$Kind;" (.ref a_URI_QUALIFIED_NAME)) (S_BRACED_URI_LITERAL : Sta Z h0 "com/example/quelex/quelex/Lexeme$Kind" "BRACED_URI_LITERAL" "Lcom/example/quelex/quelex/Lexeme$Kind;" (.ref a_BRACED_URI_LITERAL)) :
    MetFree l (⟨"com/example/quelex/quelex/Lexeme$Kind", "startsAsName", "()Z"⟩ : MethodName) (head1 (Jvm.Cond.code (⟨"com/example/quelex/quelex/Lexeme$Kind", "startsAsName", "()Z"⟩ : MethodName) prog_34_method_6_code 1 (some .boolean) :: ws) ({ frames := 0, cells := 0, slots := 0, locals := 0 } : Room)) (fun a U => a = #[(.ref a1)] ∧ Z.Warmed39 U.vm ∧ U.heap = h0) (fun _ _ _ _ _ => True) (fun _ U o U' => ∃ v L, o = .returned v ∧ Q2 a1 a_NAME a_URI_QUALIFIED_NAME a_BRACED_URI_LITERAL h0 n0 v U'.heap L ∧ FrameEnd U o U' L ({ frames := 0, cells := 0, slots := 0, locals := 0 } : Room).cells ({ frames := 0, cells := 0, slots := 0, locals := 0 } : Room).slots) := by
  refine MetFree.of_bodySF (plainFor_of_name pn_2) hisR ?_
  intro p e s m args below meth c s₁ Bd hml0 hP hK
  obtain ⟨rfl, hZ, hh⟩ := hP
  have hx := Bd.exec
  have hby := Bd.bytes
  have hml : c.maxLocals = 1 := hml0
  have hown : s.vm.findClass "com/example/quelex/quelex/Lexeme$Kind" = some m.cls := findClass_of_methodNamed Bd.named
  have hnm := (name_of_methodNamed Bd.named Bd.method).1
  have hlk : meth.locks = false := BodyLoose.notSynchronized Bd
  have X0 : Stand p l e ({ frames := 0, cells := 0, slots := 0, locals := 0 } : Room) s m #[(.ref a1)] below meth c s₁ [] 0 0 := Stand.of_body Bd
  have e0 : s₁.heap = h0 := by rw [← hh, Bd.state]; rfl
  have N0 := Fr.nil n0
  refine own_start (Q := Q2 a1 a_NAME a_URI_QUALIFIED_NAME a_BRACED_URI_LITERAL h0 n0) (ef_2 m a1) ?_
  show own_Go p e below _ s₁ (mkF m 0 #[.val (.ref a1)] [])
  refine own_by (fun t_ k_ => XS.aloadN X0.here hx rfl (hb hby d2_0) rfl rfl k_) ?_
  show own_Go p e below _ s₁ (mkF m 1 #[.val (.ref a1)] [(.ref a1)])
  refine own_getS X0 hx hZ hown (hw _ (List.mem_of_getElem? (i := 13) rfl)) Via.refl e0 S_NAME (hb hby d2_1) ?_
  intro T1 X1 e1
  show own_Go p e below _ T1 (mkF m 4 #[.val (.ref a1)] [(.ref a_NAME), (.ref a1)])
  refine own_acmpEq X1 hx 21 (hb hby d2_4) (by decide) (by decide) (fun (hc4 : a1 = a_NAME) => ?_) (fun (hc4 : ¬ a1 = a_NAME) => ?_)
  · show own_Go p e below _ T1 (mkF m 21 #[.val (.ref a1)] [])
    refine own_by (fun t_ k_ => XS.iconst X1.here hx rfl (hb hby d2_21) k_) ?_
    show own_Go p e below _ T1 (mkF m 22 #[.val (.ref a1)] [(.int (1 : Int32))])
    refine own_by (fun t_ k_ => XS.goto X1.here hx rfl (pc0 := 22) (pc' := 26) rfl (hb hby d2_22) (by decide) (by decide) k_) ?_
    show own_Go p e below _ T1 (mkF m 26 #[.val (.ref a1)] [(.int (1 : Int32))])
    refine own_retZ X1 hx hlk Bd.returns (by decide) (hb hby d2_26) e1 (by decide) (by decide) ?_
    exact ⟨by simp [own_sn, hc4], N0, rfl⟩
  · show own_Go p e below _ T1 (mkF m 7 #[.val (.ref a1)] [])
    refine own_by (fun t_ k_ => XS.aloadN X1.here hx rfl (hb hby d2_7) rfl rfl k_) ?_
    show own_Go p e below _ T1 (mkF m 8 #[.val (.ref a1)] [(.ref a1)])
    refine own_getS X1 hx hZ hown (hw _ (List.mem_of_getElem? (i := 16) rfl)) Via.refl e1 S_URI_QUALIFIED_NAME (hb hby d2_8) ?_
    intro T2 X2 e2
    show own_Go p e below _ T2 (mkF m 11 #[.val (.ref a1)] [(.ref a_URI_QUALIFIED_NAME), (.ref a1)])
    refine own_acmpEq X2 hx 21 (hb hby d2_11) (by decide) (by decide) (fun (hc11 : a1 = a_URI_QUALIFIED_NAME) => ?_) (fun (hc11 : ¬ a1 = a_URI_QUALIFIED_NAME) => ?_)
    · show own_Go p e below _ T2 (mkF m 21 #[.val (.ref a1)] [])
      refine own_by (fun t_ k_ => XS.iconst X2.here hx rfl (hb hby d2_21) k_) ?_
      show own_Go p e below _ T2 (mkF m 22 #[.val (.ref a1)] [(.int (1 : Int32))])
      refine own_by (fun t_ k_ => XS.goto X2.here hx rfl (pc0 := 22) (pc' := 26) rfl (hb hby d2_22) (by decide) (by decide) k_) ?_
      show own_Go p e below _ T2 (mkF m 26 #[.val (.ref a1)] [(.int (1 : Int32))])
      refine own_retZ X2 hx hlk Bd.returns (by decide) (hb hby d2_26) e2 (by decide) (by decide) ?_
      exact ⟨by simp [own_sn, hc4, hc11], N0, rfl⟩
    · show own_Go p e below _ T2 (mkF m 14 #[.val (.ref a1)] [])
      refine own_by (fun t_ k_ => XS.aloadN X2.here hx rfl (hb hby d2_14) rfl rfl k_) ?_
      show own_Go p e below _ T2 (mkF m 15 #[.val (.ref a1)] [(.ref a1)])
      refine own_getS X2 hx hZ hown (hw _ (List.mem_of_getElem? (i := 18) rfl)) Via.refl e2 S_BRACED_URI_LITERAL (hb hby d2_15) ?_
      intro T3 X3 e3
      show own_Go p e below _ T3 (mkF m 18 #[.val (.ref a1)] [(.ref a_BRACED_URI_LITERAL), (.ref a1)])
      refine own_acmpNe X3 hx 25 (hb hby d2_18) (by decide) (by decide) (fun (hc18 : ¬ a1 = a_BRACED_URI_LITERAL) => ?_) (fun (hc18 : a1 = a_BRACED_URI_LITERAL) => ?_)
      · show own_Go p e below _ T3 (mkF m 25 #[.val (.ref a1)] [])
        refine own_by (fun t_ k_ => XS.iconst X3.here hx rfl (hb hby d2_25) k_) ?_
        show own_Go p e below _ T3 (mkF m 26 #[.val (.ref a1)] [(.int (0 : Int32))])
        refine own_retZ X3 hx hlk Bd.returns (by decide) (hb hby d2_26) e3 (by decide) (by decide) ?_
        exact ⟨by simp [own_sn, hc4, hc11, hc18], N0, rfl⟩
      · show own_Go p e below _ T3 (mkF m 21 #[.val (.ref a1)] [])
        refine own_by (fun t_ k_ => XS.iconst X3.here hx rfl (hb hby d2_21) k_) ?_
        show own_Go p e below _ T3 (mkF m 22 #[.val (.ref a1)] [(.int (1 : Int32))])
        refine own_by (fun t_ k_ => XS.goto X3.here hx rfl (pc0 := 22) (pc' := 26) rfl (hb hby d2_22) (by decide) (by decide) k_) ?_
        show own_Go p e below _ T3 (mkF m 26 #[.val (.ref a1)] [(.int (1 : Int32))])
        refine own_retZ X3 hx hlk Bd.returns (by decide) (hb hby d2_26) e3 (by decide) (by decide) ?_
        exact ⟨by simp [own_sn, hc4, hc11, hc18], N0, rfl⟩
theorem ef_0 (m : MethodId) (p1 : Int32) : entryFrame m #[(.int p1)] maxLocals = mkF m 0 #[.val (.int p1), .unset, .unset, .unset] [] := by first | (simp [entryFrame, mkF, argsToLocals, Value.category, maxLocals]; done) | rfl
set_option maxRecDepth 65536 in
set_option maxHeartbeats 40000000 in
theorem rm0 (l : Launch) (Z : State) (a0 : Array Value) (hw : ∀ d ∈ tables_1, d.before a0 Z = true) (ws : List Jvm.Cond) (p1 : Int32) (a_NAME : Addr) (a_URI_QUALIFIED_NAME : Addr) (a_BRACED_URI_LITERAL : Addr) (a_INTEGER : Addr) (a_DECIMAL : Addr) (a_DOUBLE : Addr) (a_STRING : Addr) (a_SYMBOL : Addr) (a_PREDEFINED_ENTITY_REF : Addr) (a_CHAR_REF : Addr) (a_ESCAPE_QUOT : Addr) (a_ESCAPE_APOS : Addr) (a_ELEMENT_CONTENT_CHAR : Addr) (a_QUOT_ATTR_CONTENT_CHAR : Addr) (a_APOS_ATTR_CONTENT_CHAR : Addr) (a_DIR_COMMENT_CONTENTS : Addr) (a_DIR_PI_CONTENTS : Addr) (a_CDATA_SECTION_CONTENTS : Addr) (a_PRAGMA_CONTENTS : Addr) (a_STRING_CONSTRUCTOR_CHARS : Addr) (a_END : Addr) (h0 : Heap) (n0 : Nat) (Z0 : n0 ≤ h0.size) (S_NAME : Sta Z h0 "com/example/quelex/quelex/Lexeme$Kind" "NAME" "Lcom/example/quelex/quelex/Lexeme$Kind;" (.ref a_NAME)) (S_URI_QUALIFIED_NAME : Sta Z h0 "com/example/quelex/quelex/Lexeme$Kind" "URI_QUALIFIED_NAME" "Lcom/example/quelex/quelex/Lexeme$Kind;" (.ref a_URI_QUALIFIED_NAME)) (S_BRACED_URI_LITERAL : Sta Z h0 "com/example/quelex/quelex/Lexeme$Kind" "BRACED_URI_LITERAL" "Lcom/example/quelex/quelex/Lexeme$Kind;" (.ref a_BRACED_URI_LITERAL)) (S_INTEGER : Sta Z h0 "com/example/quelex/quelex/Lexeme$Kind" "INTEGER" "Lcom/example/quelex/quelex/Lexeme$Kind;" (.ref a_INTEGER)) (S_DECIMAL : Sta Z h0 "com/example/quelex/quelex/Lexeme$Kind" "DECIMAL" "Lcom/example/quelex/quelex/Lexeme$Kind;" (.ref a_DECIMAL)) (S_DOUBLE : Sta Z h0 "com/example/quelex/quelex/Lexeme$Kind" "DOUBLE" "Lcom/example/quelex/quelex/Lexeme$Kind;" (.ref a_DOUBLE)) (S_STRING : Sta Z h0 "com/example/quelex/quelex/Lexeme$Kind" "STRING" "Lcom/example/quelex/quelex/Lexeme$Kind;" (.ref a_STRING)) (S_SYMBOL : Sta Z h0 "com/example/quelex/quelex/Lexeme$Kind" "SYMBOL" "Lcom/example/quelex/quelex/Lexeme$Kind;" (.ref a_SYMBOL)) (S_PREDEFINED_ENTITY_REF : Sta Z h0 "com/example/quelex/quelex/Lexeme$Kind" "PREDEFINED_ENTITY_REF" "Lcom/example/quelex/quelex/Lexeme$Kind;" (.ref a_PREDEFINED_ENTITY_REF)) (S_CHAR_REF : Sta Z h0 "com/example/quelex/quelex/Lexeme$Kind" "CHAR_REF" "Lcom/example/quelex/quelex/Lexeme$Kind;" (.ref a_CHAR_REF)) (S_ESCAPE_QUOT : Sta Z h0 "com/example/quelex/quelex/Lexeme$Kind" "ESCAPE_QUOT" "Lcom/example/quelex/quelex/Lexeme$Kind;" (.ref a_ESCAPE_QUOT)) (S_ESCAPE_APOS : Sta Z h0 "com/example/quelex/quelex/Lexeme$Kind" "ESCAPE_APOS" "Lcom/example/quelex/quelex/Lexeme$Kind;" (.ref a_ESCAPE_APOS)) (S_ELEMENT_CONTENT_CHAR : Sta Z h0 "com/example/quelex/quelex/Lexeme$Kind" "ELEMENT_CONTENT_CHAR" "Lcom/example/quelex/quelex/Lexeme$Kind;" (.ref a_ELEMENT_CONTENT_CHAR)) (S_QUOT_ATTR_CONTENT_CHAR : Sta Z h0 "com/example/quelex/quelex/Lexeme$Kind" "QUOT_ATTR_CONTENT_CHAR" "Lcom/example/quelex/quelex/Lexeme$Kind;" (.ref a_QUOT_ATTR_CONTENT_CHAR)) (S_APOS_ATTR_CONTENT_CHAR : Sta Z h0 "com/example/quelex/quelex/Lexeme$Kind" "APOS_ATTR_CONTENT_CHAR" "Lcom/example/quelex/quelex/Lexeme$Kind;" (.ref a_APOS_ATTR_CONTENT_CHAR)) (S_DIR_COMMENT_CONTENTS : Sta Z h0 "com/example/quelex/quelex/Lexeme$Kind" "DIR_COMMENT_CONTENTS" "Lcom/example/quelex/quelex/Lexeme$Kind;" (.ref a_DIR_COMMENT_CONTENTS)) (S_DIR_PI_CONTENTS : Sta Z h0 "com/example/quelex/quelex/Lexeme$Kind" "DIR_PI_CONTENTS" "Lcom/example/quelex/quelex/Lexeme$Kind;" (.ref a_DIR_PI_CONTENTS)) (S_CDATA_SECTION_CONTENTS : Sta Z h0 "com/example/quelex/quelex/Lexeme$Kind" "CDATA_SECTION_CONTENTS" "Lcom/example/quelex/quelex/Lexeme$Kind;" (.ref a_CDATA_SECTION_CONTENTS)) (S_PRAGMA_CONTENTS : Sta Z h0 "com/example/quelex/quelex/Lexeme$Kind" "PRAGMA_CONTENTS" "Lcom/example/quelex/quelex/Lexeme$Kind;" (.ref a_PRAGMA_CONTENTS)) (S_STRING_CONSTRUCTOR_CHARS : Sta Z h0 "com/example/quelex/quelex/Lexeme$Kind" "STRING_CONSTRUCTOR_CHARS" "Lcom/example/quelex/quelex/Lexeme$Kind;" (.ref a_STRING_CONSTRUCTOR_CHARS)) (S_END : Sta Z h0 "com/example/quelex/quelex/Lexeme$Kind" "END" "Lcom/example/quelex/quelex/Lexeme$Kind;" (.ref a_END)) (E_NAME : Exa Z h0 a_NAME "com/example/quelex/quelex/Lexeme$Kind") (E_URI_QUALIFIED_NAME : Exa Z h0 a_URI_QUALIFIED_NAME "com/example/quelex/quelex/Lexeme$Kind") (E_BRACED_URI_LITERAL : Exa Z h0 a_BRACED_URI_LITERAL "com/example/quelex/quelex/Lexeme$Kind") (E_INTEGER : Exa Z h0 a_INTEGER "com/example/quelex/quelex/Lexeme$Kind") (E_DECIMAL : Exa Z h0 a_DECIMAL "com/example/quelex/quelex/Lexeme$Kind") (E_DOUBLE : Exa Z h0 a_DOUBLE "com/example/quelex/quelex/Lexeme$Kind") (E_STRING : Exa Z h0 a_STRING "com/example/quelex/quelex/Lexeme$Kind") (E_SYMBOL : Exa Z h0 a_SYMBOL "com/example/quelex/quelex/Lexeme$Kind") (E_PREDEFINED_ENTITY_REF : Exa Z h0 a_PREDEFINED_ENTITY_REF "com/example/quelex/quelex/Lexeme$Kind") (E_CHAR_REF : Exa Z h0 a_CHAR_REF "com/example/quelex/quelex/Lexeme$Kind") (E_ESCAPE_QUOT : Exa Z h0 a_ESCAPE_QUOT "com/example/quelex/quelex/Lexeme$Kind") (E_ESCAPE_APOS : Exa Z h0 a_ESCAPE_APOS "com/example/quelex/quelex/Lexeme$Kind") (E_ELEMENT_CONTENT_CHAR : Exa Z h0 a_ELEMENT_CONTENT_CHAR "com/example/quelex/quelex/Lexeme$Kind") (E_QUOT_ATTR_CONTENT_CHAR : Exa Z h0 a_QUOT_ATTR_CONTENT_CHAR "com/example/quelex/quelex/Lexeme$Kind") (E_APOS_ATTR_CONTENT_CHAR : Exa Z h0 a_APOS_ATTR_CONTENT_CHAR "com/example/quelex/quelex/Lexeme$Kind") (E_DIR_COMMENT_CONTENTS : Exa Z h0 a_DIR_COMMENT_CONTENTS "com/example/quelex/quelex/Lexeme$Kind") (E_DIR_PI_CONTENTS : Exa Z h0 a_DIR_PI_CONTENTS "com/example/quelex/quelex/Lexeme$Kind") (E_CDATA_SECTION_CONTENTS : Exa Z h0 a_CDATA_SECTION_CONTENTS "com/example/quelex/quelex/Lexeme$Kind") (E_PRAGMA_CONTENTS : Exa Z h0 a_PRAGMA_CONTENTS "com/example/quelex/quelex/Lexeme$Kind") (E_STRING_CONSTRUCTOR_CHARS : Exa Z h0 a_STRING_CONSTRUCTOR_CHARS "com/example/quelex/quelex/Lexeme$Kind") (E_END : Exa Z h0 a_END "com/example/quelex/quelex/Lexeme$Kind") (F_ordinal_NAME : Fld Z h0 a_NAME "java/lang/Enum" "ordinal" "I" (.int (0 : Int32))) (F_ordinal_URI_QUALIFIED_NAME : Fld Z h0 a_URI_QUALIFIED_NAME "java/lang/Enum" "ordinal" "I" (.int (1 : Int32))) (F_ordinal_BRACED_URI_LITERAL : Fld Z h0 a_BRACED_URI_LITERAL "java/lang/Enum" "ordinal" "I" (.int (2 : Int32))) (F_ordinal_INTEGER : Fld Z h0 a_INTEGER "java/lang/Enum" "ordinal" "I" (.int (3 : Int32))) (F_ordinal_DECIMAL : Fld Z h0 a_DECIMAL "java/lang/Enum" "ordinal" "I" (.int (4 : Int32))) (F_ordinal_DOUBLE : Fld Z h0 a_DOUBLE "java/lang/Enum" "ordinal" "I" (.int (5 : Int32))) (F_ordinal_STRING : Fld Z h0 a_STRING "java/lang/Enum" "ordinal" "I" (.int (6 : Int32))) (F_ordinal_SYMBOL : Fld Z h0 a_SYMBOL "java/lang/Enum" "ordinal" "I" (.int (7 : Int32))) (F_ordinal_PREDEFINED_ENTITY_REF : Fld Z h0 a_PREDEFINED_ENTITY_REF "java/lang/Enum" "ordinal" "I" (.int (8 : Int32))) (F_ordinal_CHAR_REF : Fld Z h0 a_CHAR_REF "java/lang/Enum" "ordinal" "I" (.int (9 : Int32))) (F_ordinal_ESCAPE_QUOT : Fld Z h0 a_ESCAPE_QUOT "java/lang/Enum" "ordinal" "I" (.int (10 : Int32))) (F_ordinal_ESCAPE_APOS : Fld Z h0 a_ESCAPE_APOS "java/lang/Enum" "ordinal" "I" (.int (11 : Int32))) (F_ordinal_ELEMENT_CONTENT_CHAR : Fld Z h0 a_ELEMENT_CONTENT_CHAR "java/lang/Enum" "ordinal" "I" (.int (12 : Int32))) (F_ordinal_QUOT_ATTR_CONTENT_CHAR : Fld Z h0 a_QUOT_ATTR_CONTENT_CHAR "java/lang/Enum" "ordinal" "I" (.int (13 : Int32))) (F_ordinal_APOS_ATTR_CONTENT_CHAR : Fld Z h0 a_APOS_ATTR_CONTENT_CHAR "java/lang/Enum" "ordinal" "I" (.int (14 : Int32))) (F_ordinal_DIR_COMMENT_CONTENTS : Fld Z h0 a_DIR_COMMENT_CONTENTS "java/lang/Enum" "ordinal" "I" (.int (15 : Int32))) (F_ordinal_DIR_PI_CONTENTS : Fld Z h0 a_DIR_PI_CONTENTS "java/lang/Enum" "ordinal" "I" (.int (16 : Int32))) (F_ordinal_CDATA_SECTION_CONTENTS : Fld Z h0 a_CDATA_SECTION_CONTENTS "java/lang/Enum" "ordinal" "I" (.int (17 : Int32))) (F_ordinal_PRAGMA_CONTENTS : Fld Z h0 a_PRAGMA_CONTENTS "java/lang/Enum" "ordinal" "I" (.int (18 : Int32))) (F_ordinal_STRING_CONSTRUCTOR_CHARS : Fld Z h0 a_STRING_CONSTRUCTOR_CHARS "java/lang/Enum" "ordinal" "I" (.int (19 : Int32))) (F_ordinal_END : Fld Z h0 a_END "java/lang/Enum" "ordinal" "I" (.int (20 : Int32))) :
    MetFree l x (head1 (Jvm.Cond.code x code maxLocals ret :: ws) room_1) (fun a U => a = #[(.int p1)] ∧ Z.Warmed39 U.vm ∧ U.heap = h0) (fun _ _ _ _ _ => True) (fun _ U o U' => ∃ v L, o = .returned v ∧ Q0 n0 v U'.heap L ∧ FrameEnd U o U' L room_1.cells room_1.slots) := by
  refine MetFree.of_bodySF (plainFor_of_name pn_0) hisR ?_
  intro p e s m args below meth c s₁ Bd hml0 hP hK
  obtain ⟨rfl, hZ, hh⟩ := hP
  have hx := Bd.exec
  have hby := Bd.bytes
  have hml : c.maxLocals = 4 := hml0
  have hown : s.vm.findClass "com/example/quelex/quelex/KindStartsAsNamePinLaw" = some m.cls := findClass_of_methodNamed Bd.named
  have hnm := (name_of_methodNamed Bd.named Bd.method).1
  have hlk : meth.locks = false := BodyLoose.notSynchronized Bd
  have X0 : Stand p l e room_1 s m #[(.int p1)] below meth c s₁ [] 0 0 := Stand.of_body Bd
  have e0 : s₁.heap = h0 := by rw [← hh, Bd.state]; rfl
  have N0 := Fr.nil n0
  refine own_start (Q := Q0 n0) (ef_0 m p1) ?_
  show own_Go p e below _ s₁ (mkF m 0 #[.val (.int p1), .unset, .unset, .unset] [])
  refine own_by (fun t_ k_ => XS.iloadN X0.here hx rfl (hb hby at_0) rfl k_) ?_
  show own_Go p e below _ s₁ (mkF m 1 #[.val (.int p1), .unset, .unset, .unset] [(.int p1)])
  refine own_by (fun t_ k_ => X0.ldcInt hx hown (mvT hZ (hw _ (List.mem_of_getElem? (i := 0) rfl))) (g := (mkF m 1 #[.val (.int p1), .unset, .unset, .unset] [(.int p1)])) rfl (hb hby at_1) _ k_) ?_
  show own_Go p e below _ s₁ (mkF m 3 #[.val (.int p1), .unset, .unset, .unset] [(.int (2147483647 : Int32)), (.int p1)])
  refine own_by (fun t_ k_ => XS.iand X0.here hx rfl (hb hby at_3) rfl k_) ?_
  show own_Go p e below _ s₁ (mkF m 4 #[.val (.int p1), .unset, .unset, .unset] [(.int (p1 &&& (2147483647 : Int32)))])
  refine own_by (fun t_ k_ => XS.bipush X0.here hx rfl (hb hby at_4) k_) ?_
  show own_Go p e below _ s₁ (mkF m 6 #[.val (.int p1), .unset, .unset, .unset] [(.int (21 : Int32)), (.int (p1 &&& (2147483647 : Int32)))])
  refine own_by (fun t_ k_ => iremM X0 hx rfl (hb hby at_6) rfl (by decide) k_) ?_
  show own_Go p e below _ s₁ (mkF m 7 #[.val (.int p1), .unset, .unset, .unset] [(.int ((p1 &&& (2147483647 : Int32)) % (21 : Int32)))])
  refine own_by (fun t_ k_ => XS.istoreN X0.here hx rfl (hb hby at_7) rfl (l' := #[.val (.int p1), .val (.int ((p1 &&& (2147483647 : Int32)) % (21 : Int32))), .unset, .unset]) rfl k_) ?_
  show own_Go p e below _ s₁ (mkF m 8 #[.val (.int p1), .val (.int ((p1 &&& (2147483647 : Int32)) % (21 : Int32))), .unset, .unset] [])
  generalize h_kq : ((p1 &&& (2147483647 : Int32)) % (21 : Int32)) = kq
  rcases own_l21 (h_kq ▸ (own_k21 p1).1) (h_kq ▸ (own_k21 p1).2) with rfl | rfl | rfl | rfl | rfl | rfl | rfl | rfl | rfl | rfl | rfl | rfl | rfl | rfl | rfl | rfl | rfl | rfl | rfl | rfl | rfl
  · show own_Go p e below _ s₁ (mkF m 8 #[.val (.int p1), .val (.int (0 : Int32)), .unset, .unset] [])
    refine own_by (fun t_ k_ => XS.iloadN X0.here hx rfl (hb hby at_8) rfl k_) ?_
    show own_Go p e below _ s₁ (mkF m 9 #[.val (.int p1), .val (.int (0 : Int32)), .unset, .unset] [(.int (0 : Int32))])
    refine own_callS (W := 0) X0 hx hZ (y := (⟨"com/example/quelex/quelex/KindStartsAsNamePinLaw", "kindAt", "(I)Lcom/example/quelex/quelex/Lexeme$Kind;"⟩ : MethodName)) hown (hw _ (List.mem_of_getElem? (i := 1) rfl)) (hw _ (List.mem_of_getElem? (i := 2) rfl)) (hw _ (List.mem_of_getElem? (i := 3) rfl)) (hw _ (List.mem_of_getElem? (i := 4) rfl)) (by decide) (by rw [hml]; rfl) (argsL := [(.int (0 : Int32))]) pd_0 rfl (rm1 l Z a0 hw [] (0 : Int32) a_NAME a_NAME a_URI_QUALIFIED_NAME a_BRACED_URI_LITERAL a_INTEGER a_DECIMAL a_DOUBLE a_STRING a_SYMBOL a_PREDEFINED_ENTITY_REF a_CHAR_REF a_ESCAPE_QUOT a_ESCAPE_APOS a_ELEMENT_CONTENT_CHAR a_QUOT_ATTR_CONTENT_CHAR a_APOS_ATTR_CONTENT_CHAR a_DIR_COMMENT_CONTENTS a_DIR_PI_CONTENTS a_CDATA_SECTION_CONTENTS a_PRAGMA_CONTENTS a_STRING_CONSTRUCTOR_CHARS a_END h0 n0 Z0 S_NAME S_URI_QUALIFIED_NAME S_BRACED_URI_LITERAL S_INTEGER S_DECIMAL S_DOUBLE S_STRING S_SYMBOL S_PREDEFINED_ENTITY_REF S_CHAR_REF S_ESCAPE_QUOT S_ESCAPE_APOS S_ELEMENT_CONTENT_CHAR S_QUOT_ATTR_CONTENT_CHAR S_APOS_ATTR_CONTENT_CHAR S_DIR_COMMENT_CONTENTS S_DIR_PI_CONTENTS S_CDATA_SECTION_CONTENTS S_PRAGMA_CONTENTS S_STRING_CONSTRUCTOR_CHARS S_END (Or.inl ⟨rfl, rfl⟩)) (by decide) (by decide) (Nat.le_of_eq rfl) (by decide) (by decide) (rest := []) e0 rfl (hb hby at_9) ?_
    intro v1 T1 L1 X1 hQ1
    obtain ⟨rfl, N1q, e1⟩ := hQ1
    have N1 := Fr.app N0 N1q
    show own_Go p e below _ T1 (mkF m 12 #[.val (.int p1), .val (.int (0 : Int32)), .unset, .unset] [(.ref a_NAME)])
    refine own_by (fun t_ k_ => XS.astoreN X1.here hx rfl (hb hby at_12) rfl rfl (l' := #[.val (.int p1), .val (.int (0 : Int32)), .val (.ref a_NAME), .unset]) rfl k_) ?_
    show own_Go p e below _ T1 (mkF m 13 #[.val (.int p1), .val (.int (0 : Int32)), .val (.ref a_NAME), .unset] [])
    refine own_by (fun t_ k_ => XS.iloadN X1.here hx rfl (hb hby at_13) rfl k_) ?_
    show own_Go p e below _ T1 (mkF m 14 #[.val (.int p1), .val (.int (0 : Int32)), .val (.ref a_NAME), .unset] [(.int (0 : Int32))])
    refine own_if X1 hx 27 (hb hby at_14) (by decide) (by decide) (fun _ => ?_) (fun hc => absurd (show (0 : Int32) = (0 : Int32) from by decide) (by first | exact hc | exact not_not_intro hc))
    show own_Go p e below _ T1 (mkF m 27 #[.val (.int p1), .val (.int (0 : Int32)), .val (.ref a_NAME), .unset] [])
    refine own_by (fun t_ k_ => XS.iconst X1.here hx rfl (hb hby at_27) k_) ?_
    show own_Go p e below _ T1 (mkF m 28 #[.val (.int p1), .val (.int (0 : Int32)), .val (.ref a_NAME), .unset] [(.int (1 : Int32))])
    refine own_by (fun t_ k_ => XS.goto X1.here hx rfl (pc0 := 28) (pc' := 32) rfl (hb hby at_28) (by decide) (by decide) k_) ?_
    show own_Go p e below _ T1 (mkF m 32 #[.val (.int p1), .val (.int (0 : Int32)), .val (.ref a_NAME), .unset] [(.int (1 : Int32))])
    refine own_by (fun t_ k_ => XS.istoreN X1.here hx rfl (hb hby at_32) rfl (l' := #[.val (.int p1), .val (.int (0 : Int32)), .val (.ref a_NAME), .val (.int (1 : Int32))]) rfl k_) ?_
    show own_Go p e below _ T1 (mkF m 33 #[.val (.int p1), .val (.int (0 : Int32)), .val (.ref a_NAME), .val (.int (1 : Int32))] [])
    refine own_by (fun t_ k_ => XS.aloadN X1.here hx rfl (hb hby at_33) rfl rfl k_) ?_
    show own_Go p e below _ T1 (mkF m 34 #[.val (.int p1), .val (.int (0 : Int32)), .val (.ref a_NAME), .val (.int (1 : Int32))] [(.ref a_NAME)])
    refine own_callV (W := 0) X1 hx hZ (y := (⟨"com/example/quelex/quelex/Lexeme$Kind", "startsAsName", "()Z"⟩ : MethodName)) (z := (⟨"com/example/quelex/quelex/Lexeme$Kind", "startsAsName", "()Z"⟩ : MethodName)) hown (hw _ (List.mem_of_getElem? (i := 8) rfl)) (hw _ (List.mem_of_getElem? (i := 9) rfl)) (notFace_of_selects (args := #[]) (mvT hZ (hw _ (List.mem_of_getElem? (i := 11) rfl)))) (hw _ (List.mem_of_getElem? (i := 11) rfl)) (hw _ (List.mem_of_getElem? (i := 10) rfl)) (hw _ (List.mem_of_getElem? (i := 6) rfl)) (hw _ (List.mem_of_getElem? (i := 12) rfl)) (by decide) (by rw [hml]; rfl) (argsL := []) pd_1 rfl (a := a_NAME) e1 E_NAME (rm2 l Z a0 hw [] a_NAME a_NAME a_URI_QUALIFIED_NAME a_BRACED_URI_LITERAL h0 n0 Z0 S_NAME S_URI_QUALIFIED_NAME S_BRACED_URI_LITERAL) (by decide) (by decide) (Nat.le_of_eq rfl) (by decide) (by decide) (rest := []) rfl (hb hby at_34) ?_
    intro v2 T2 L2 X2 hQ2
    obtain ⟨rfl, N2q, e2⟩ := hQ2
    have N2 := Fr.app N1 N2q
    show own_Go p e below _ T2 (mkF m 37 #[.val (.int p1), .val (.int (0 : Int32)), .val (.ref a_NAME), .val (.int (1 : Int32))] [(.int (own_sn a_NAME a_NAME a_URI_QUALIFIED_NAME a_BRACED_URI_LITERAL))])
    refine own_by (fun t_ k_ => XS.iloadN X2.here hx rfl (hb hby at_37) rfl k_) ?_
    show own_Go p e below _ T2 (mkF m 38 #[.val (.int p1), .val (.int (0 : Int32)), .val (.ref a_NAME), .val (.int (1 : Int32))] [(.int (1 : Int32)), (.int (own_sn a_NAME a_NAME a_URI_QUALIFIED_NAME a_BRACED_URI_LITERAL))])
    refine own_icmp X2 hx 45 (hb hby at_38) (by decide) (by decide) (fun hc => absurd (show (own_sn a_NAME a_NAME a_URI_QUALIFIED_NAME a_BRACED_URI_LITERAL) = (1 : Int32) from by simp [own_sn]) (by first | exact hc | exact not_not_intro hc)) (fun _ => ?_)
    show own_Go p e below _ T2 (mkF m 41 #[.val (.int p1), .val (.int (0 : Int32)), .val (.ref a_NAME), .val (.int (1 : Int32))] [])
    refine own_by (fun t_ k_ => XS.iconst X2.here hx rfl (hb hby at_41) k_) ?_
    show own_Go p e below _ T2 (mkF m 42 #[.val (.int p1), .val (.int (0 : Int32)), .val (.ref a_NAME), .val (.int (1 : Int32))] [(.int (1 : Int32))])
    refine own_by (fun t_ k_ => XS.goto X2.here hx rfl (pc0 := 42) (pc' := 46) rfl (hb hby at_42) (by decide) (by decide) k_) ?_
    show own_Go p e below _ T2 (mkF m 46 #[.val (.int p1), .val (.int (0 : Int32)), .val (.ref a_NAME), .val (.int (1 : Int32))] [(.int (1 : Int32))])
    refine own_retZ X2 hx hlk Bd.returns (by decide) (hb hby at_46) e2 (by decide) (by decide) ?_
    exact ⟨rfl, N2⟩
  · show own_Go p e below _ s₁ (mkF m 8 #[.val (.int p1), .val (.int (1 : Int32)), .unset, .unset] [])
    refine own_by (fun t_ k_ => XS.iloadN X0.here hx rfl (hb hby at_8) rfl k_) ?_
    show own_Go p e below _ s₁ (mkF m 9 #[.val (.int p1), .val (.int (1 : Int32)), .unset, .unset] [(.int (1 : Int32))])
    refine own_callS (W := 0) X0 hx hZ (y := (⟨"com/example/quelex/quelex/KindStartsAsNamePinLaw", "kindAt", "(I)Lcom/example/quelex/quelex/Lexeme$Kind;"⟩ : MethodName)) hown (hw _ (List.mem_of_getElem? (i := 1) rfl)) (hw _ (List.mem_of_getElem? (i := 2) rfl)) (hw _ (List.mem_of_getElem? (i := 3) rfl)) (hw _ (List.mem_of_getElem? (i := 4) rfl)) (by decide) (by rw [hml]; rfl) (argsL := [(.int (1 : Int32))]) pd_0 rfl (rm1 l Z a0 hw [] (1 : Int32) a_URI_QUALIFIED_NAME a_NAME a_URI_QUALIFIED_NAME a_BRACED_URI_LITERAL a_INTEGER a_DECIMAL a_DOUBLE a_STRING a_SYMBOL a_PREDEFINED_ENTITY_REF a_CHAR_REF a_ESCAPE_QUOT a_ESCAPE_APOS a_ELEMENT_CONTENT_CHAR a_QUOT_ATTR_CONTENT_CHAR a_APOS_ATTR_CONTENT_CHAR a_DIR_COMMENT_CONTENTS a_DIR_PI_CONTENTS a_CDATA_SECTION_CONTENTS a_PRAGMA_CONTENTS a_STRING_CONSTRUCTOR_CHARS a_END h0 n0 Z0 S_NAME S_URI_QUALIFIED_NAME S_BRACED_URI_LITERAL S_INTEGER S_DECIMAL S_DOUBLE S_STRING S_SYMBOL S_PREDEFINED_ENTITY_REF S_CHAR_REF S_ESCAPE_QUOT S_ESCAPE_APOS S_ELEMENT_CONTENT_CHAR S_QUOT_ATTR_CONTENT_CHAR S_APOS_ATTR_CONTENT_CHAR S_DIR_COMMENT_CONTENTS S_DIR_PI_CONTENTS S_CDATA_SECTION_CONTENTS S_PRAGMA_CONTENTS S_STRING_CONSTRUCTOR_CHARS S_END (Or.inr (Or.inl ⟨rfl, rfl⟩))) (by decide) (by decide) (Nat.le_of_eq rfl) (by decide) (by decide) (rest := []) e0 rfl (hb hby at_9) ?_
    intro v3 T3 L3 X3 hQ3
    obtain ⟨rfl, N3q, e3⟩ := hQ3
    have N3 := Fr.app N0 N3q
    show own_Go p e below _ T3 (mkF m 12 #[.val (.int p1), .val (.int (1 : Int32)), .unset, .unset] [(.ref a_URI_QUALIFIED_NAME)])
    refine own_by (fun t_ k_ => XS.astoreN X3.here hx rfl (hb hby at_12) rfl rfl (l' := #[.val (.int p1), .val (.int (1 : Int32)), .val (.ref a_URI_QUALIFIED_NAME), .unset]) rfl k_) ?_
    show own_Go p e below _ T3 (mkF m 13 #[.val (.int p1), .val (.int (1 : Int32)), .val (.ref a_URI_QUALIFIED_NAME), .unset] [])
    refine own_by (fun t_ k_ => XS.iloadN X3.here hx rfl (hb hby at_13) rfl k_) ?_
    show own_Go p e below _ T3 (mkF m 14 #[.val (.int p1), .val (.int (1 : Int32)), .val (.ref a_URI_QUALIFIED_NAME), .unset] [(.int (1 : Int32))])
    refine own_if X3 hx 27 (hb hby at_14) (by decide) (by decide) (fun hc => absurd (show ¬ (1 : Int32) = (0 : Int32) from by decide) (by first | exact hc | exact not_not_intro hc)) (fun _ => ?_)
    show own_Go p e below _ T3 (mkF m 17 #[.val (.int p1), .val (.int (1 : Int32)), .val (.ref a_URI_QUALIFIED_NAME), .unset] [])
    refine own_by (fun t_ k_ => XS.iloadN X3.here hx rfl (hb hby at_17) rfl k_) ?_
    show own_Go p e below _ T3 (mkF m 18 #[.val (.int p1), .val (.int (1 : Int32)), .val (.ref a_URI_QUALIFIED_NAME), .unset] [(.int (1 : Int32))])
    refine own_by (fun t_ k_ => XS.iconst X3.here hx rfl (hb hby at_18) k_) ?_
    show own_Go p e below _ T3 (mkF m 19 #[.val (.int p1), .val (.int (1 : Int32)), .val (.ref a_URI_QUALIFIED_NAME), .unset] [(.int (1 : Int32)), (.int (1 : Int32))])
    refine own_icmp X3 hx 27 (hb hby at_19) (by decide) (by decide) (fun _ => ?_) (fun hc => absurd (show (1 : Int32) = (1 : Int32) from by decide) (by first | exact hc | exact not_not_intro hc))
    show own_Go p e below _ T3 (mkF m 27 #[.val (.int p1), .val (.int (1 : Int32)), .val (.ref a_URI_QUALIFIED_NAME), .unset] [])
    refine own_by (fun t_ k_ => XS.iconst X3.here hx rfl (hb hby at_27) k_) ?_
    show own_Go p e below _ T3 (mkF m 28 #[.val (.int p1), .val (.int (1 : Int32)), .val (.ref a_URI_QUALIFIED_NAME), .unset] [(.int (1 : Int32))])
    refine own_by (fun t_ k_ => XS.goto X3.here hx rfl (pc0 := 28) (pc' := 32) rfl (hb hby at_28) (by decide) (by decide) k_) ?_
    show own_Go p e below _ T3 (mkF m 32 #[.val (.int p1), .val (.int (1 : Int32)), .val (.ref a_URI_QUALIFIED_NAME), .unset] [(.int (1 : Int32))])
    refine own_by (fun t_ k_ => XS.istoreN X3.here hx rfl (hb hby at_32) rfl (l' := #[.val (.int p1), .val (.int (1 : Int32)), .val (.ref a_URI_QUALIFIED_NAME), .val (.int (1 : Int32))]) rfl k_) ?_
    show own_Go p e below _ T3 (mkF m 33 #[.val (.int p1), .val (.int (1 : Int32)), .val (.ref a_URI_QUALIFIED_NAME), .val (.int (1 : Int32))] [])
    refine own_by (fun t_ k_ => XS.aloadN X3.here hx rfl (hb hby at_33) rfl rfl k_) ?_
    show own_Go p e below _ T3 (mkF m 34 #[.val (.int p1), .val (.int (1 : Int32)), .val (.ref a_URI_QUALIFIED_NAME), .val (.int (1 : Int32))] [(.ref a_URI_QUALIFIED_NAME)])
    refine own_callV (W := 0) X3 hx hZ (y := (⟨"com/example/quelex/quelex/Lexeme$Kind", "startsAsName", "()Z"⟩ : MethodName)) (z := (⟨"com/example/quelex/quelex/Lexeme$Kind", "startsAsName", "()Z"⟩ : MethodName)) hown (hw _ (List.mem_of_getElem? (i := 8) rfl)) (hw _ (List.mem_of_getElem? (i := 9) rfl)) (notFace_of_selects (args := #[]) (mvT hZ (hw _ (List.mem_of_getElem? (i := 11) rfl)))) (hw _ (List.mem_of_getElem? (i := 11) rfl)) (hw _ (List.mem_of_getElem? (i := 10) rfl)) (hw _ (List.mem_of_getElem? (i := 6) rfl)) (hw _ (List.mem_of_getElem? (i := 12) rfl)) (by decide) (by rw [hml]; rfl) (argsL := []) pd_1 rfl (a := a_URI_QUALIFIED_NAME) e3 E_URI_QUALIFIED_NAME (rm2 l Z a0 hw [] a_URI_QUALIFIED_NAME a_NAME a_URI_QUALIFIED_NAME a_BRACED_URI_LITERAL h0 n0 Z0 S_NAME S_URI_QUALIFIED_NAME S_BRACED_URI_LITERAL) (by decide) (by decide) (Nat.le_of_eq rfl) (by decide) (by decide) (rest := []) rfl (hb hby at_34) ?_
    intro v4 T4 L4 X4 hQ4
    obtain ⟨rfl, N4q, e4⟩ := hQ4
    have N4 := Fr.app N3 N4q
    show own_Go p e below _ T4 (mkF m 37 #[.val (.int p1), .val (.int (1 : Int32)), .val (.ref a_URI_QUALIFIED_NAME), .val (.int (1 : Int32))] [(.int (own_sn a_URI_QUALIFIED_NAME a_NAME a_URI_QUALIFIED_NAME a_BRACED_URI_LITERAL))])
    refine own_by (fun t_ k_ => XS.iloadN X4.here hx rfl (hb hby at_37) rfl k_) ?_
    show own_Go p e below _ T4 (mkF m 38 #[.val (.int p1), .val (.int (1 : Int32)), .val (.ref a_URI_QUALIFIED_NAME), .val (.int (1 : Int32))] [(.int (1 : Int32)), (.int (own_sn a_URI_QUALIFIED_NAME a_NAME a_URI_QUALIFIED_NAME a_BRACED_URI_LITERAL))])
    refine own_icmp X4 hx 45 (hb hby at_38) (by decide) (by decide) (fun hc => absurd (show (own_sn a_URI_QUALIFIED_NAME a_NAME a_URI_QUALIFIED_NAME a_BRACED_URI_LITERAL) = (1 : Int32) from by simp [own_sn]) (by first | exact hc | exact not_not_intro hc)) (fun _ => ?_)
    show own_Go p e below _ T4 (mkF m 41 #[.val (.int p1), .val (.int (1 : Int32)), .val (.ref a_URI_QUALIFIED_NAME), .val (.int (1 : Int32))] [])
    refine own_by (fun t_ k_ => XS.iconst X4.here hx rfl (hb hby at_41) k_) ?_
    show own_Go p e below _ T4 (mkF m 42 #[.val (.int p1), .val (.int (1 : Int32)), .val (.ref a_URI_QUALIFIED_NAME), .val (.int (1 : Int32))] [(.int (1 : Int32))])
    refine own_by (fun t_ k_ => XS.goto X4.here hx rfl (pc0 := 42) (pc' := 46) rfl (hb hby at_42) (by decide) (by decide) k_) ?_
    show own_Go p e below _ T4 (mkF m 46 #[.val (.int p1), .val (.int (1 : Int32)), .val (.ref a_URI_QUALIFIED_NAME), .val (.int (1 : Int32))] [(.int (1 : Int32))])
    refine own_retZ X4 hx hlk Bd.returns (by decide) (hb hby at_46) e4 (by decide) (by decide) ?_
    exact ⟨rfl, N4⟩
  · show own_Go p e below _ s₁ (mkF m 8 #[.val (.int p1), .val (.int (2 : Int32)), .unset, .unset] [])
    refine own_by (fun t_ k_ => XS.iloadN X0.here hx rfl (hb hby at_8) rfl k_) ?_
    show own_Go p e below _ s₁ (mkF m 9 #[.val (.int p1), .val (.int (2 : Int32)), .unset, .unset] [(.int (2 : Int32))])
    refine own_callS (W := 0) X0 hx hZ (y := (⟨"com/example/quelex/quelex/KindStartsAsNamePinLaw", "kindAt", "(I)Lcom/example/quelex/quelex/Lexeme$Kind;"⟩ : MethodName)) hown (hw _ (List.mem_of_getElem? (i := 1) rfl)) (hw _ (List.mem_of_getElem? (i := 2) rfl)) (hw _ (List.mem_of_getElem? (i := 3) rfl)) (hw _ (List.mem_of_getElem? (i := 4) rfl)) (by decide) (by rw [hml]; rfl) (argsL := [(.int (2 : Int32))]) pd_0 rfl (rm1 l Z a0 hw [] (2 : Int32) a_BRACED_URI_LITERAL a_NAME a_URI_QUALIFIED_NAME a_BRACED_URI_LITERAL a_INTEGER a_DECIMAL a_DOUBLE a_STRING a_SYMBOL a_PREDEFINED_ENTITY_REF a_CHAR_REF a_ESCAPE_QUOT a_ESCAPE_APOS a_ELEMENT_CONTENT_CHAR a_QUOT_ATTR_CONTENT_CHAR a_APOS_ATTR_CONTENT_CHAR a_DIR_COMMENT_CONTENTS a_DIR_PI_CONTENTS a_CDATA_SECTION_CONTENTS a_PRAGMA_CONTENTS a_STRING_CONSTRUCTOR_CHARS a_END h0 n0 Z0 S_NAME S_URI_QUALIFIED_NAME S_BRACED_URI_LITERAL S_INTEGER S_DECIMAL S_DOUBLE S_STRING S_SYMBOL S_PREDEFINED_ENTITY_REF S_CHAR_REF S_ESCAPE_QUOT S_ESCAPE_APOS S_ELEMENT_CONTENT_CHAR S_QUOT_ATTR_CONTENT_CHAR S_APOS_ATTR_CONTENT_CHAR S_DIR_COMMENT_CONTENTS S_DIR_PI_CONTENTS S_CDATA_SECTION_CONTENTS S_PRAGMA_CONTENTS S_STRING_CONSTRUCTOR_CHARS S_END (Or.inr (Or.inr (Or.inl ⟨rfl, rfl⟩)))) (by decide) (by decide) (Nat.le_of_eq rfl) (by decide) (by decide) (rest := []) e0 rfl (hb hby at_9) ?_
    intro v5 T5 L5 X5 hQ5
    obtain ⟨rfl, N5q, e5⟩ := hQ5
    have N5 := Fr.app N0 N5q
    show own_Go p e below _ T5 (mkF m 12 #[.val (.int p1), .val (.int (2 : Int32)), .unset, .unset] [(.ref a_BRACED_URI_LITERAL)])
    refine own_by (fun t_ k_ => XS.astoreN X5.here hx rfl (hb hby at_12) rfl rfl (l' := #[.val (.int p1), .val (.int (2 : Int32)), .val (.ref a_BRACED_URI_LITERAL), .unset]) rfl k_) ?_
    show own_Go p e below _ T5 (mkF m 13 #[.val (.int p1), .val (.int (2 : Int32)), .val (.ref a_BRACED_URI_LITERAL), .unset] [])
    refine own_by (fun t_ k_ => XS.iloadN X5.here hx rfl (hb hby at_13) rfl k_) ?_
    show own_Go p e below _ T5 (mkF m 14 #[.val (.int p1), .val (.int (2 : Int32)), .val (.ref a_BRACED_URI_LITERAL), .unset] [(.int (2 : Int32))])
    refine own_if X5 hx 27 (hb hby at_14) (by decide) (by decide) (fun hc => absurd (show ¬ (2 : Int32) = (0 : Int32) from by decide) (by first | exact hc | exact not_not_intro hc)) (fun _ => ?_)
    show own_Go p e below _ T5 (mkF m 17 #[.val (.int p1), .val (.int (2 : Int32)), .val (.ref a_BRACED_URI_LITERAL), .unset] [])
    refine own_by (fun t_ k_ => XS.iloadN X5.here hx rfl (hb hby at_17) rfl k_) ?_
    show own_Go p e below _ T5 (mkF m 18 #[.val (.int p1), .val (.int (2 : Int32)), .val (.ref a_BRACED_URI_LITERAL), .unset] [(.int (2 : Int32))])
    refine own_by (fun t_ k_ => XS.iconst X5.here hx rfl (hb hby at_18) k_) ?_
    show own_Go p e below _ T5 (mkF m 19 #[.val (.int p1), .val (.int (2 : Int32)), .val (.ref a_BRACED_URI_LITERAL), .unset] [(.int (1 : Int32)), (.int (2 : Int32))])
    refine own_icmp X5 hx 27 (hb hby at_19) (by decide) (by decide) (fun hc => absurd (show ¬ (2 : Int32) = (1 : Int32) from by decide) (by first | exact hc | exact not_not_intro hc)) (fun _ => ?_)
    show own_Go p e below _ T5 (mkF m 22 #[.val (.int p1), .val (.int (2 : Int32)), .val (.ref a_BRACED_URI_LITERAL), .unset] [])
    refine own_by (fun t_ k_ => XS.iloadN X5.here hx rfl (hb hby at_22) rfl k_) ?_
    show own_Go p e below _ T5 (mkF m 23 #[.val (.int p1), .val (.int (2 : Int32)), .val (.ref a_BRACED_URI_LITERAL), .unset] [(.int (2 : Int32))])
    refine own_by (fun t_ k_ => XS.iconst X5.here hx rfl (hb hby at_23) k_) ?_
    show own_Go p e below _ T5 (mkF m 24 #[.val (.int p1), .val (.int (2 : Int32)), .val (.ref a_BRACED_URI_LITERAL), .unset] [(.int (2 : Int32)), (.int (2 : Int32))])
    refine own_icmp X5 hx 31 (hb hby at_24) (by decide) (by decide) (fun hc => absurd (show (2 : Int32) = (2 : Int32) from by decide) (by first | exact hc | exact not_not_intro hc)) (fun _ => ?_)
    show own_Go p e below _ T5 (mkF m 27 #[.val (.int p1), .val (.int (2 : Int32)), .val (.ref a_BRACED_URI_LITERAL), .unset] [])
    refine own_by (fun t_ k_ => XS.iconst X5.here hx rfl (hb hby at_27) k_) ?_
    show own_Go p e below _ T5 (mkF m 28 #[.val (.int p1), .val (.int (2 : Int32)), .val (.ref a_BRACED_URI_LITERAL), .unset] [(.int (1 : Int32))])
    refine own_by (fun t_ k_ => XS.goto X5.here hx rfl (pc0 := 28) (pc' := 32) rfl (hb hby at_28) (by decide) (by decide) k_) ?_
    show own_Go p e below _ T5 (mkF m 32 #[.val (.int p1), .val (.int (2 : Int32)), .val (.ref a_BRACED_URI_LITERAL), .unset] [(.int (1 : Int32))])
    refine own_by (fun t_ k_ => XS.istoreN X5.here hx rfl (hb hby at_32) rfl (l' := #[.val (.int p1), .val (.int (2 : Int32)), .val (.ref a_BRACED_URI_LITERAL), .val (.int (1 : Int32))]) rfl k_) ?_
    show own_Go p e below _ T5 (mkF m 33 #[.val (.int p1), .val (.int (2 : Int32)), .val (.ref a_BRACED_URI_LITERAL), .val (.int (1 : Int32))] [])
    refine own_by (fun t_ k_ => XS.aloadN X5.here hx rfl (hb hby at_33) rfl rfl k_) ?_
    show own_Go p e below _ T5 (mkF m 34 #[.val (.int p1), .val (.int (2 : Int32)), .val (.ref a_BRACED_URI_LITERAL), .val (.int (1 : Int32))] [(.ref a_BRACED_URI_LITERAL)])
    refine own_callV (W := 0) X5 hx hZ (y := (⟨"com/example/quelex/quelex/Lexeme$Kind", "startsAsName", "()Z"⟩ : MethodName)) (z := (⟨"com/example/quelex/quelex/Lexeme$Kind", "startsAsName", "()Z"⟩ : MethodName)) hown (hw _ (List.mem_of_getElem? (i := 8) rfl)) (hw _ (List.mem_of_getElem? (i := 9) rfl)) (notFace_of_selects (args := #[]) (mvT hZ (hw _ (List.mem_of_getElem? (i := 11) rfl)))) (hw _ (List.mem_of_getElem? (i := 11) rfl)) (hw _ (List.mem_of_getElem? (i := 10) rfl)) (hw _ (List.mem_of_getElem? (i := 6) rfl)) (hw _ (List.mem_of_getElem? (i := 12) rfl)) (by decide) (by rw [hml]; rfl) (argsL := []) pd_1 rfl (a := a_BRACED_URI_LITERAL) e5 E_BRACED_URI_LITERAL (rm2 l Z a0 hw [] a_BRACED_URI_LITERAL a_NAME a_URI_QUALIFIED_NAME a_BRACED_URI_LITERAL h0 n0 Z0 S_NAME S_URI_QUALIFIED_NAME S_BRACED_URI_LITERAL) (by decide) (by decide) (Nat.le_of_eq rfl) (by decide) (by decide) (rest := []) rfl (hb hby at_34) ?_
    intro v6 T6 L6 X6 hQ6
    obtain ⟨rfl, N6q, e6⟩ := hQ6
    have N6 := Fr.app N5 N6q
    show own_Go p e below _ T6 (mkF m 37 #[.val (.int p1), .val (.int (2 : Int32)), .val (.ref a_BRACED_URI_LITERAL), .val (.int (1 : Int32))] [(.int (own_sn a_BRACED_URI_LITERAL a_NAME a_URI_QUALIFIED_NAME a_BRACED_URI_LITERAL))])
    refine own_by (fun t_ k_ => XS.iloadN X6.here hx rfl (hb hby at_37) rfl k_) ?_
    show own_Go p e below _ T6 (mkF m 38 #[.val (.int p1), .val (.int (2 : Int32)), .val (.ref a_BRACED_URI_LITERAL), .val (.int (1 : Int32))] [(.int (1 : Int32)), (.int (own_sn a_BRACED_URI_LITERAL a_NAME a_URI_QUALIFIED_NAME a_BRACED_URI_LITERAL))])
    refine own_icmp X6 hx 45 (hb hby at_38) (by decide) (by decide) (fun hc => absurd (show (own_sn a_BRACED_URI_LITERAL a_NAME a_URI_QUALIFIED_NAME a_BRACED_URI_LITERAL) = (1 : Int32) from by simp [own_sn]) (by first | exact hc | exact not_not_intro hc)) (fun _ => ?_)
    show own_Go p e below _ T6 (mkF m 41 #[.val (.int p1), .val (.int (2 : Int32)), .val (.ref a_BRACED_URI_LITERAL), .val (.int (1 : Int32))] [])
    refine own_by (fun t_ k_ => XS.iconst X6.here hx rfl (hb hby at_41) k_) ?_
    show own_Go p e below _ T6 (mkF m 42 #[.val (.int p1), .val (.int (2 : Int32)), .val (.ref a_BRACED_URI_LITERAL), .val (.int (1 : Int32))] [(.int (1 : Int32))])
    refine own_by (fun t_ k_ => XS.goto X6.here hx rfl (pc0 := 42) (pc' := 46) rfl (hb hby at_42) (by decide) (by decide) k_) ?_
    show own_Go p e below _ T6 (mkF m 46 #[.val (.int p1), .val (.int (2 : Int32)), .val (.ref a_BRACED_URI_LITERAL), .val (.int (1 : Int32))] [(.int (1 : Int32))])
    refine own_retZ X6 hx hlk Bd.returns (by decide) (hb hby at_46) e6 (by decide) (by decide) ?_
    exact ⟨rfl, N6⟩
  · show own_Go p e below _ s₁ (mkF m 8 #[.val (.int p1), .val (.int (3 : Int32)), .unset, .unset] [])
    refine own_by (fun t_ k_ => XS.iloadN X0.here hx rfl (hb hby at_8) rfl k_) ?_
    show own_Go p e below _ s₁ (mkF m 9 #[.val (.int p1), .val (.int (3 : Int32)), .unset, .unset] [(.int (3 : Int32))])
    refine own_callS (W := 0) X0 hx hZ (y := (⟨"com/example/quelex/quelex/KindStartsAsNamePinLaw", "kindAt", "(I)Lcom/example/quelex/quelex/Lexeme$Kind;"⟩ : MethodName)) hown (hw _ (List.mem_of_getElem? (i := 1) rfl)) (hw _ (List.mem_of_getElem? (i := 2) rfl)) (hw _ (List.mem_of_getElem? (i := 3) rfl)) (hw _ (List.mem_of_getElem? (i := 4) rfl)) (by decide) (by rw [hml]; rfl) (argsL := [(.int (3 : Int32))]) pd_0 rfl (rm1 l Z a0 hw [] (3 : Int32) a_INTEGER a_NAME a_URI_QUALIFIED_NAME a_BRACED_URI_LITERAL a_INTEGER a_DECIMAL a_DOUBLE a_STRING a_SYMBOL a_PREDEFINED_ENTITY_REF a_CHAR_REF a_ESCAPE_QUOT a_ESCAPE_APOS a_ELEMENT_CONTENT_CHAR a_QUOT_ATTR_CONTENT_CHAR a_APOS_ATTR_CONTENT_CHAR a_DIR_COMMENT_CONTENTS a_DIR_PI_CONTENTS a_CDATA_SECTION_CONTENTS a_PRAGMA_CONTENTS a_STRING_CONSTRUCTOR_CHARS a_END h0 n0 Z0 S_NAME S_URI_QUALIFIED_NAME S_BRACED_URI_LITERAL S_INTEGER S_DECIMAL S_DOUBLE S_STRING S_SYMBOL S_PREDEFINED_ENTITY_REF S_CHAR_REF S_ESCAPE_QUOT S_ESCAPE_APOS S_ELEMENT_CONTENT_CHAR S_QUOT_ATTR_CONTENT_CHAR S_APOS_ATTR_CONTENT_CHAR S_DIR_COMMENT_CONTENTS S_DIR_PI_CONTENTS S_CDATA_SECTION_CONTENTS S_PRAGMA_CONTENTS S_STRING_CONSTRUCTOR_CHARS S_END (Or.inr (Or.inr (Or.inr (Or.inl ⟨rfl, rfl⟩))))) (by decide) (by decide) (Nat.le_of_eq rfl) (by decide) (by decide) (rest := []) e0 rfl (hb hby at_9) ?_
    intro v7 T7 L7 X7 hQ7
    obtain ⟨rfl, N7q, e7⟩ := hQ7
    have N7 := Fr.app N0 N7q
    show own_Go p e below _ T7 (mkF m 12 #[.val (.int p1), .val (.int (3 : Int32)), .unset, .unset] [(.ref a_INTEGER)])
    refine own_by (fun t_ k_ => XS.astoreN X7.here hx rfl (hb hby at_12) rfl rfl (l' := #[.val (.int p1), .val (.int (3 : Int32)), .val (.ref a_INTEGER), .unset]) rfl k_) ?_
    show own_Go p e below _ T7 (mkF m 13 #[.val (.int p1), .val (.int (3 : Int32)), .val (.ref a_INTEGER), .unset] [])
    refine own_by (fun t_ k_ => XS.iloadN X7.here hx rfl (hb hby at_13) rfl k_) ?_
    show own_Go p e below _ T7 (mkF m 14 #[.val (.int p1), .val (.int (3 : Int32)), .val (.ref a_INTEGER), .unset] [(.int (3 : Int32))])
    refine own_if X7 hx 27 (hb hby at_14) (by decide) (by decide) (fun hc => absurd (show ¬ (3 : Int32) = (0 : Int32) from by decide) (by first | exact hc | exact not_not_intro hc)) (fun _ => ?_)
    show own_Go p e below _ T7 (mkF m 17 #[.val (.int p1), .val (.int (3 : Int32)), .val (.ref a_INTEGER), .unset] [])
    refine own_by (fun t_ k_ => XS.iloadN X7.here hx rfl (hb hby at_17) rfl k_) ?_
    show own_Go p e below _ T7 (mkF m 18 #[.val (.int p1), .val (.int (3 : Int32)), .val (.ref a_INTEGER), .unset] [(.int (3 : Int32))])
    refine own_by (fun t_ k_ => XS.iconst X7.here hx rfl (hb hby at_18) k_) ?_
    show own_Go p e below _ T7 (mkF m 19 #[.val (.int p1), .val (.int (3 : Int32)), .val (.ref a_INTEGER), .unset] [(.int (1 : Int32)), (.int (3 : Int32))])
    refine own_icmp X7 hx 27 (hb hby at_19) (by decide) (by decide) (fun hc => absurd (show ¬ (3 : Int32) = (1 : Int32) from by decide) (by first | exact hc | exact not_not_intro hc)) (fun _ => ?_)
    show own_Go p e below _ T7 (mkF m 22 #[.val (.int p1), .val (.int (3 : Int32)), .val (.ref a_INTEGER), .unset] [])
    refine own_by (fun t_ k_ => XS.iloadN X7.here hx rfl (hb hby at_22) rfl k_) ?_
    show own_Go p e below _ T7 (mkF m 23 #[.val (.int p1), .val (.int (3 : Int32)), .val (.ref a_INTEGER), .unset] [(.int (3 : Int32))])
    refine own_by (fun t_ k_ => XS.iconst X7.here hx rfl (hb hby at_23) k_) ?_
    show own_Go p e below _ T7 (mkF m 24 #[.val (.int p1), .val (.int (3 : Int32)), .val (.ref a_INTEGER), .unset] [(.int (2 : Int32)), (.int (3 : Int32))])
    refine own_icmp X7 hx 31 (hb hby at_24) (by decide) (by decide) (fun _ => ?_) (fun hc => absurd (show ¬ (3 : Int32) = (2 : Int32) from by decide) (by first | exact hc | exact not_not_intro hc))
    show own_Go p e below _ T7 (mkF m 31 #[.val (.int p1), .val (.int (3 : Int32)), .val (.ref a_INTEGER), .unset] [])
    refine own_by (fun t_ k_ => XS.iconst X7.here hx rfl (hb hby at_31) k_) ?_
    show own_Go p e below _ T7 (mkF m 32 #[.val (.int p1), .val (.int (3 : Int32)), .val (.ref a_INTEGER), .unset] [(.int (0 : Int32))])
    refine own_by (fun t_ k_ => XS.istoreN X7.here hx rfl (hb hby at_32) rfl (l' := #[.val (.int p1), .val (.int (3 : Int32)), .val (.ref a_INTEGER), .val (.int (0 : Int32))]) rfl k_) ?_
    show own_Go p e below _ T7 (mkF m 33 #[.val (.int p1), .val (.int (3 : Int32)), .val (.ref a_INTEGER), .val (.int (0 : Int32))] [])
    refine own_by (fun t_ k_ => XS.aloadN X7.here hx rfl (hb hby at_33) rfl rfl k_) ?_
    show own_Go p e below _ T7 (mkF m 34 #[.val (.int p1), .val (.int (3 : Int32)), .val (.ref a_INTEGER), .val (.int (0 : Int32))] [(.ref a_INTEGER)])
    refine own_callV (W := 0) X7 hx hZ (y := (⟨"com/example/quelex/quelex/Lexeme$Kind", "startsAsName", "()Z"⟩ : MethodName)) (z := (⟨"com/example/quelex/quelex/Lexeme$Kind", "startsAsName", "()Z"⟩ : MethodName)) hown (hw _ (List.mem_of_getElem? (i := 8) rfl)) (hw _ (List.mem_of_getElem? (i := 9) rfl)) (notFace_of_selects (args := #[]) (mvT hZ (hw _ (List.mem_of_getElem? (i := 11) rfl)))) (hw _ (List.mem_of_getElem? (i := 11) rfl)) (hw _ (List.mem_of_getElem? (i := 10) rfl)) (hw _ (List.mem_of_getElem? (i := 6) rfl)) (hw _ (List.mem_of_getElem? (i := 12) rfl)) (by decide) (by rw [hml]; rfl) (argsL := []) pd_1 rfl (a := a_INTEGER) e7 E_INTEGER (rm2 l Z a0 hw [] a_INTEGER a_NAME a_URI_QUALIFIED_NAME a_BRACED_URI_LITERAL h0 n0 Z0 S_NAME S_URI_QUALIFIED_NAME S_BRACED_URI_LITERAL) (by decide) (by decide) (Nat.le_of_eq rfl) (by decide) (by decide) (rest := []) rfl (hb hby at_34) ?_
    intro v8 T8 L8 X8 hQ8
    obtain ⟨rfl, N8q, e8⟩ := hQ8
    have N8 := Fr.app N7 N8q
    show own_Go p e below _ T8 (mkF m 37 #[.val (.int p1), .val (.int (3 : Int32)), .val (.ref a_INTEGER), .val (.int (0 : Int32))] [(.int (own_sn a_INTEGER a_NAME a_URI_QUALIFIED_NAME a_BRACED_URI_LITERAL))])
    refine own_by (fun t_ k_ => XS.iloadN X8.here hx rfl (hb hby at_37) rfl k_) ?_
    show own_Go p e below _ T8 (mkF m 38 #[.val (.int p1), .val (.int (3 : Int32)), .val (.ref a_INTEGER), .val (.int (0 : Int32))] [(.int (0 : Int32)), (.int (own_sn a_INTEGER a_NAME a_URI_QUALIFIED_NAME a_BRACED_URI_LITERAL))])
    refine own_icmp X8 hx 45 (hb hby at_38) (by decide) (by decide) (fun hc => absurd (show (own_sn a_INTEGER a_NAME a_URI_QUALIFIED_NAME a_BRACED_URI_LITERAL) = (0 : Int32) from by simp [own_sn, Fld.ne F_ordinal_INTEGER F_ordinal_NAME (by decide), Fld.ne F_ordinal_INTEGER F_ordinal_URI_QUALIFIED_NAME (by decide), Fld.ne F_ordinal_INTEGER F_ordinal_BRACED_URI_LITERAL (by decide)]) (by first | exact hc | exact not_not_intro hc)) (fun _ => ?_)
    show own_Go p e below _ T8 (mkF m 41 #[.val (.int p1), .val (.int (3 : Int32)), .val (.ref a_INTEGER), .val (.int (0 : Int32))] [])
    refine own_by (fun t_ k_ => XS.iconst X8.here hx rfl (hb hby at_41) k_) ?_
    show own_Go p e below _ T8 (mkF m 42 #[.val (.int p1), .val (.int (3 : Int32)), .val (.ref a_INTEGER), .val (.int (0 : Int32))] [(.int (1 : Int32))])
    refine own_by (fun t_ k_ => XS.goto X8.here hx rfl (pc0 := 42) (pc' := 46) rfl (hb hby at_42) (by decide) (by decide) k_) ?_
    show own_Go p e below _ T8 (mkF m 46 #[.val (.int p1), .val (.int (3 : Int32)), .val (.ref a_INTEGER), .val (.int (0 : Int32))] [(.int (1 : Int32))])
    refine own_retZ X8 hx hlk Bd.returns (by decide) (hb hby at_46) e8 (by decide) (by decide) ?_
    exact ⟨rfl, N8⟩
  · show own_Go p e below _ s₁ (mkF m 8 #[.val (.int p1), .val (.int (4 : Int32)), .unset, .unset] [])
    refine own_by (fun t_ k_ => XS.iloadN X0.here hx rfl (hb hby at_8) rfl k_) ?_
    show own_Go p e below _ s₁ (mkF m 9 #[.val (.int p1), .val (.int (4 : Int32)), .unset, .unset] [(.int (4 : Int32))])
    refine own_callS (W := 0) X0 hx hZ (y := (⟨"com/example/quelex/quelex/KindStartsAsNamePinLaw", "kindAt", "(I)Lcom/example/quelex/quelex/Lexeme$Kind;"⟩ : MethodName)) hown (hw _ (List.mem_of_getElem? (i := 1) rfl)) (hw _ (List.mem_of_getElem? (i := 2) rfl)) (hw _ (List.mem_of_getElem? (i := 3) rfl)) (hw _ (List.mem_of_getElem? (i := 4) rfl)) (by decide) (by rw [hml]; rfl) (argsL := [(.int (4 : Int32))]) pd_0 rfl (rm1 l Z a0 hw [] (4 : Int32) a_DECIMAL a_NAME a_URI_QUALIFIED_NAME a_BRACED_URI_LITERAL a_INTEGER a_DECIMAL a_DOUBLE a_STRING a_SYMBOL a_PREDEFINED_ENTITY_REF a_CHAR_REF a_ESCAPE_QUOT a_ESCAPE_APOS a_ELEMENT_CONTENT_CHAR a_QUOT_ATTR_CONTENT_CHAR a_APOS_ATTR_CONTENT_CHAR a_DIR_COMMENT_CONTENTS a_DIR_PI_CONTENTS a_CDATA_SECTION_CONTENTS a_PRAGMA_CONTENTS a_STRING_CONSTRUCTOR_CHARS a_END h0 n0 Z0 S_NAME S_URI_QUALIFIED_NAME S_BRACED_URI_LITERAL S_INTEGER S_DECIMAL S_DOUBLE S_STRING S_SYMBOL S_PREDEFINED_ENTITY_REF S_CHAR_REF S_ESCAPE_QUOT S_ESCAPE_APOS S_ELEMENT_CONTENT_CHAR S_QUOT_ATTR_CONTENT_CHAR S_APOS_ATTR_CONTENT_CHAR S_DIR_COMMENT_CONTENTS S_DIR_PI_CONTENTS S_CDATA_SECTION_CONTENTS S_PRAGMA_CONTENTS S_STRING_CONSTRUCTOR_CHARS S_END (Or.inr (Or.inr (Or.inr (Or.inr (Or.inl ⟨rfl, rfl⟩)))))) (by decide) (by decide) (Nat.le_of_eq rfl) (by decide) (by decide) (rest := []) e0 rfl (hb hby at_9) ?_
    intro v9 T9 L9 X9 hQ9
    obtain ⟨rfl, N9q, e9⟩ := hQ9
    have N9 := Fr.app N0 N9q
    show own_Go p e below _ T9 (mkF m 12 #[.val (.int p1), .val (.int (4 : Int32)), .unset, .unset] [(.ref a_DECIMAL)])
    refine own_by (fun t_ k_ => XS.astoreN X9.here hx rfl (hb hby at_12) rfl rfl (l' := #[.val (.int p1), .val (.int (4 : Int32)), .val (.ref a_DECIMAL), .unset]) rfl k_) ?_
    show own_Go p e below _ T9 (mkF m 13 #[.val (.int p1), .val (.int (4 : Int32)), .val (.ref a_DECIMAL), .unset] [])
    refine own_by (fun t_ k_ => XS.iloadN X9.here hx rfl (hb hby at_13) rfl k_) ?_
    show own_Go p e below _ T9 (mkF m 14 #[.val (.int p1), .val (.int (4 : Int32)), .val (.ref a_DECIMAL), .unset] [(.int (4 : Int32))])
    refine own_if X9 hx 27 (hb hby at_14) (by decide) (by decide) (fun hc => absurd (show ¬ (4 : Int32) = (0 : Int32) from by decide) (by first | exact hc | exact not_not_intro hc)) (fun _ => ?_)
    show own_Go p e below _ T9 (mkF m 17 #[.val (.int p1), .val (.int (4 : Int32)), .val (.ref a_DECIMAL), .unset] [])
    refine own_by (fun t_ k_ => XS.iloadN X9.here hx rfl (hb hby at_17) rfl k_) ?_
    show own_Go p e below _ T9 (mkF m 18 #[.val (.int p1), .val (.int (4 : Int32)), .val (.ref a_DECIMAL), .unset] [(.int (4 : Int32))])
    refine own_by (fun t_ k_ => XS.iconst X9.here hx rfl (hb hby at_18) k_) ?_
    show own_Go p e below _ T9 (mkF m 19 #[.val (.int p1), .val (.int (4 : Int32)), .val (.ref a_DECIMAL), .unset] [(.int (1 : Int32)), (.int (4 : Int32))])
    refine own_icmp X9 hx 27 (hb hby at_19) (by decide) (by decide) (fun hc => absurd (show ¬ (4 : Int32) = (1 : Int32) from by decide) (by first | exact hc | exact not_not_intro hc)) (fun _ => ?_)
    show own_Go p e below _ T9 (mkF m 22 #[.val (.int p1), .val (.int (4 : Int32)), .val (.ref a_DECIMAL), .unset] [])
    refine own_by (fun t_ k_ => XS.iloadN X9.here hx rfl (hb hby at_22) rfl k_) ?_
    show own_Go p e below _ T9 (mkF m 23 #[.val (.int p1), .val (.int (4 : Int32)), .val (.ref a_DECIMAL), .unset] [(.int (4 : Int32))])
    refine own_by (fun t_ k_ => XS.iconst X9.here hx rfl (hb hby at_23) k_) ?_
    show own_Go p e below _ T9 (mkF m 24 #[.val (.int p1), .val (.int (4 : Int32)), .val (.ref a_DECIMAL), .unset] [(.int (2 : Int32)), (.int (4 : Int32))])
    refine own_icmp X9 hx 31 (hb hby at_24) (by decide) (by decide) (fun _ => ?_) (fun hc => absurd (show ¬ (4 : Int32) = (2 : Int32) from by decide) (by first | exact hc | exact not_not_intro hc))
    show own_Go p e below _ T9 (mkF m 31 #[.val (.int p1), .val (.int (4 : Int32)), .val (.ref a_DECIMAL), .unset] [])
    refine own_by (fun t_ k_ => XS.iconst X9.here hx rfl (hb hby at_31) k_) ?_
    show own_Go p e below _ T9 (mkF m 32 #[.val (.int p1), .val (.int (4 : Int32)), .val (.ref a_DECIMAL), .unset] [(.int (0 : Int32))])
    refine own_by (fun t_ k_ => XS.istoreN X9.here hx rfl (hb hby at_32) rfl (l' := #[.val (.int p1), .val (.int (4 : Int32)), .val (.ref a_DECIMAL), .val (.int (0 : Int32))]) rfl k_) ?_
    show own_Go p e below _ T9 (mkF m 33 #[.val (.int p1), .val (.int (4 : Int32)), .val (.ref a_DECIMAL), .val (.int (0 : Int32))] [])
    refine own_by (fun t_ k_ => XS.aloadN X9.here hx rfl (hb hby at_33) rfl rfl k_) ?_
    show own_Go p e below _ T9 (mkF m 34 #[.val (.int p1), .val (.int (4 : Int32)), .val (.ref a_DECIMAL), .val (.int (0 : Int32))] [(.ref a_DECIMAL)])
    refine own_callV (W := 0) X9 hx hZ (y := (⟨"com/example/quelex/quelex/Lexeme$Kind", "startsAsName", "()Z"⟩ : MethodName)) (z := (⟨"com/example/quelex/quelex/Lexeme$Kind", "startsAsName", "()Z"⟩ : MethodName)) hown (hw _ (List.mem_of_getElem? (i := 8) rfl)) (hw _ (List.mem_of_getElem? (i := 9) rfl)) (notFace_of_selects (args := #[]) (mvT hZ (hw _ (List.mem_of_getElem? (i := 11) rfl)))) (hw _ (List.mem_of_getElem? (i := 11) rfl)) (hw _ (List.mem_of_getElem? (i := 10) rfl)) (hw _ (List.mem_of_getElem? (i := 6) rfl)) (hw _ (List.mem_of_getElem? (i := 12) rfl)) (by decide) (by rw [hml]; rfl) (argsL := []) pd_1 rfl (a := a_DECIMAL) e9 E_DECIMAL (rm2 l Z a0 hw [] a_DECIMAL a_NAME a_URI_QUALIFIED_NAME a_BRACED_URI_LITERAL h0 n0 Z0 S_NAME S_URI_QUALIFIED_NAME S_BRACED_URI_LITERAL) (by decide) (by decide) (Nat.le_of_eq rfl) (by decide) (by decide) (rest := []) rfl (hb hby at_34) ?_
    intro v10 T10 L10 X10 hQ10
    obtain ⟨rfl, N10q, e10⟩ := hQ10
    have N10 := Fr.app N9 N10q
    show own_Go p e below _ T10 (mkF m 37 #[.val (.int p1), .val (.int (4 : Int32)), .val (.ref a_DECIMAL), .val (.int (0 : Int32))] [(.int (own_sn a_DECIMAL a_NAME a_URI_QUALIFIED_NAME a_BRACED_URI_LITERAL))])
    refine own_by (fun t_ k_ => XS.iloadN X10.here hx rfl (hb hby at_37) rfl k_) ?_
    show own_Go p e below _ T10 (mkF m 38 #[.val (.int p1), .val (.int (4 : Int32)), .val (.ref a_DECIMAL), .val (.int (0 : Int32))] [(.int (0 : Int32)), (.int (own_sn a_DECIMAL a_NAME a_URI_QUALIFIED_NAME a_BRACED_URI_LITERAL))])
    refine own_icmp X10 hx 45 (hb hby at_38) (by decide) (by decide) (fun hc => absurd (show (own_sn a_DECIMAL a_NAME a_URI_QUALIFIED_NAME a_BRACED_URI_LITERAL) = (0 : Int32) from by simp [own_sn, Fld.ne F_ordinal_DECIMAL F_ordinal_NAME (by decide), Fld.ne F_ordinal_DECIMAL F_ordinal_URI_QUALIFIED_NAME (by decide), Fld.ne F_ordinal_DECIMAL F_ordinal_BRACED_URI_LITERAL (by decide)]) (by first | exact hc | exact not_not_intro hc)) (fun _ => ?_)
    show own_Go p e below _ T10 (mkF m 41 #[.val (.int p1), .val (.int (4 : Int32)), .val (.ref a_DECIMAL), .val (.int (0 : Int32))] [])
    refine own_by (fun t_ k_ => XS.iconst X10.here hx rfl (hb hby at_41) k_) ?_
    show own_Go p e below _ T10 (mkF m 42 #[.val (.int p1), .val (.int (4 : Int32)), .val (.ref a_DECIMAL), .val (.int (0 : Int32))] [(.int (1 : Int32))])
    refine own_by (fun t_ k_ => XS.goto X10.here hx rfl (pc0 := 42) (pc' := 46) rfl (hb hby at_42) (by decide) (by decide) k_) ?_
    show own_Go p e below _ T10 (mkF m 46 #[.val (.int p1), .val (.int (4 : Int32)), .val (.ref a_DECIMAL), .val (.int (0 : Int32))] [(.int (1 : Int32))])
    refine own_retZ X10 hx hlk Bd.returns (by decide) (hb hby at_46) e10 (by decide) (by decide) ?_
    exact ⟨rfl, N10⟩
  · show own_Go p e below _ s₁ (mkF m 8 #[.val (.int p1), .val (.int (5 : Int32)), .unset, .unset] [])
    refine own_by (fun t_ k_ => XS.iloadN X0.here hx rfl (hb hby at_8) rfl k_) ?_
    show own_Go p e below _ s₁ (mkF m 9 #[.val (.int p1), .val (.int (5 : Int32)), .unset, .unset] [(.int (5 : Int32))])
    refine own_callS (W := 0) X0 hx hZ (y := (⟨"com/example/quelex/quelex/KindStartsAsNamePinLaw", "kindAt", "(I)Lcom/example/quelex/quelex/Lexeme$Kind;"⟩ : MethodName)) hown (hw _ (List.mem_of_getElem? (i := 1) rfl)) (hw _ (List.mem_of_getElem? (i := 2) rfl)) (hw _ (List.mem_of_getElem? (i := 3) rfl)) (hw _ (List.mem_of_getElem? (i := 4) rfl)) (by decide) (by rw [hml]; rfl) (argsL := [(.int (5 : Int32))]) pd_0 rfl (rm1 l Z a0 hw [] (5 : Int32) a_DOUBLE a_NAME a_URI_QUALIFIED_NAME a_BRACED_URI_LITERAL a_INTEGER a_DECIMAL a_DOUBLE a_STRING a_SYMBOL a_PREDEFINED_ENTITY_REF a_CHAR_REF a_ESCAPE_QUOT a_ESCAPE_APOS a_ELEMENT_CONTENT_CHAR a_QUOT_ATTR_CONTENT_CHAR a_APOS_ATTR_CONTENT_CHAR a_DIR_COMMENT_CONTENTS a_DIR_PI_CONTENTS a_CDATA_SECTION_CONTENTS a_PRAGMA_CONTENTS a_STRING_CONSTRUCTOR_CHARS a_END h0 n0 Z0 S_NAME S_URI_QUALIFIED_NAME S_BRACED_URI_LITERAL S_INTEGER S_DECIMAL S_DOUBLE S_STRING S_SYMBOL S_PREDEFINED_ENTITY_REF S_CHAR_REF S_ESCAPE_QUOT S_ESCAPE_APOS S_ELEMENT_CONTENT_CHAR S_QUOT_ATTR_CONTENT_CHAR S_APOS_ATTR_CONTENT_CHAR S_DIR_COMMENT_CONTENTS S_DIR_PI_CONTENTS S_CDATA_SECTION_CONTENTS S_PRAGMA_CONTENTS S_STRING_CONSTRUCTOR_CHARS S_END (Or.inr (Or.inr (Or.inr (Or.inr (Or.inr (Or.inl ⟨rfl, rfl⟩))))))) (by decide) (by decide) (Nat.le_of_eq rfl) (by decide) (by decide) (rest := []) e0 rfl (hb hby at_9) ?_
    intro v11 T11 L11 X11 hQ11
    obtain ⟨rfl, N11q, e11⟩ := hQ11
    have N11 := Fr.app N0 N11q
    show own_Go p e below _ T11 (mkF m 12 #[.val (.int p1), .val (.int (5 : Int32)), .unset, .unset] [(.ref a_DOUBLE)])
    refine own_by (fun t_ k_ => XS.astoreN X11.here hx rfl (hb hby at_12) rfl rfl (l' := #[.val (.int p1), .val (.int (5 : Int32)), .val (.ref a_DOUBLE), .unset]) rfl k_) ?_
    show own_Go p e below _ T11 (mkF m 13 #[.val (.int p1), .val (.int (5 : Int32)), .val (.ref a_DOUBLE), .unset] [])
    refine own_by (fun t_ k_ => XS.iloadN X11.here hx rfl (hb hby at_13) rfl k_) ?_
    show own_Go p e below _ T11 (mkF m 14 #[.val (.int p1), .val (.int (5 : Int32)), .val (.ref a_DOUBLE), .unset] [(.int (5 : Int32))])
    refine own_if X11 hx 27 (hb hby at_14) (by decide) (by decide) (fun hc => absurd (show ¬ (5 : Int32) = (0 : Int32) from by decide) (by first | exact hc | exact not_not_intro hc)) (fun _ => ?_)
    show own_Go p e below _ T11 (mkF m 17 #[.val (.int p1), .val (.int (5 : Int32)), .val (.ref a_DOUBLE), .unset] [])
    refine own_by (fun t_ k_ => XS.iloadN X11.here hx rfl (hb hby at_17) rfl k_) ?_
    show own_Go p e below _ T11 (mkF m 18 #[.val (.int p1), .val (.int (5 : Int32)), .val (.ref a_DOUBLE), .unset] [(.int (5 : Int32))])
    refine own_by (fun t_ k_ => XS.iconst X11.here hx rfl (hb hby at_18) k_) ?_
    show own_Go p e below _ T11 (mkF m 19 #[.val (.int p1), .val (.int (5 : Int32)), .val (.ref a_DOUBLE), .unset] [(.int (1 : Int32)), (.int (5 : Int32))])
    refine own_icmp X11 hx 27 (hb hby at_19) (by decide) (by decide) (fun hc => absurd (show ¬ (5 : Int32) = (1 : Int32) from by decide) (by first | exact hc | exact not_not_intro hc)) (fun _ => ?_)
    show own_Go p e below _ T11 (mkF m 22 #[.val (.int p1), .val (.int (5 : Int32)), .val (.ref a_DOUBLE), .unset] [])
    refine own_by (fun t_ k_ => XS.iloadN X11.here hx rfl (hb hby at_22) rfl k_) ?_
    show own_Go p e below _ T11 (mkF m 23 #[.val (.int p1), .val (.int (5 : Int32)), .val (.ref a_DOUBLE), .unset] [(.int (5 : Int32))])
    refine own_by (fun t_ k_ => XS.iconst X11.here hx rfl (hb hby at_23) k_) ?_
    show own_Go p e below _ T11 (mkF m 24 #[.val (.int p1), .val (.int (5 : Int32)), .val (.ref a_DOUBLE), .unset] [(.int (2 : Int32)), (.int (5 : Int32))])
    refine own_icmp X11 hx 31 (hb hby at_24) (by decide) (by decide) (fun _ => ?_) (fun hc => absurd (show ¬ (5 : Int32) = (2 : Int32) from by decide) (by first | exact hc | exact not_not_intro hc))
    show own_Go p e below _ T11 (mkF m 31 #[.val (.int p1), .val (.int (5 : Int32)), .val (.ref a_DOUBLE), .unset] [])
    refine own_by (fun t_ k_ => XS.iconst X11.here hx rfl (hb hby at_31) k_) ?_
    show own_Go p e below _ T11 (mkF m 32 #[.val (.int p1), .val (.int (5 : Int32)), .val (.ref a_DOUBLE), .unset] [(.int (0 : Int32))])
    refine own_by (fun t_ k_ => XS.istoreN X11.here hx rfl (hb hby at_32) rfl (l' := #[.val (.int p1), .val (.int (5 : Int32)), .val (.ref a_DOUBLE), .val (.int (0 : Int32))]) rfl k_) ?_
    show own_Go p e below _ T11 (mkF m 33 #[.val (.int p1), .val (.int (5 : Int32)), .val (.ref a_DOUBLE), .val (.int (0 : Int32))] [])
    refine own_by (fun t_ k_ => XS.aloadN X11.here hx rfl (hb hby at_33) rfl rfl k_) ?_
    show own_Go p e below _ T11 (mkF m 34 #[.val (.int p1), .val (.int (5 : Int32)), .val (.ref a_DOUBLE), .val (.int (0 : Int32))] [(.ref a_DOUBLE)])
    refine own_callV (W := 0) X11 hx hZ (y := (⟨"com/example/quelex/quelex/Lexeme$Kind", "startsAsName", "()Z"⟩ : MethodName)) (z := (⟨"com/example/quelex/quelex/Lexeme$Kind", "startsAsName", "()Z"⟩ : MethodName)) hown (hw _ (List.mem_of_getElem? (i := 8) rfl)) (hw _ (List.mem_of_getElem? (i := 9) rfl)) (notFace_of_selects (args := #[]) (mvT hZ (hw _ (List.mem_of_getElem? (i := 11) rfl)))) (hw _ (List.mem_of_getElem? (i := 11) rfl)) (hw _ (List.mem_of_getElem? (i := 10) rfl)) (hw _ (List.mem_of_getElem? (i := 6) rfl)) (hw _ (List.mem_of_getElem? (i := 12) rfl)) (by decide) (by rw [hml]; rfl) (argsL := []) pd_1 rfl (a := a_DOUBLE) e11 E_DOUBLE (rm2 l Z a0 hw [] a_DOUBLE a_NAME a_URI_QUALIFIED_NAME a_BRACED_URI_LITERAL h0 n0 Z0 S_NAME S_URI_QUALIFIED_NAME S_BRACED_URI_LITERAL) (by decide) (by decide) (Nat.le_of_eq rfl) (by decide) (by decide) (rest := []) rfl (hb hby at_34) ?_
    intro v12 T12 L12 X12 hQ12
    obtain ⟨rfl, N12q, e12⟩ := hQ12
    have N12 := Fr.app N11 N12q
    show own_Go p e below _ T12 (mkF m 37 #[.val (.int p1), .val (.int (5 : Int32)), .val (.ref a_DOUBLE), .val (.int (0 : Int32))] [(.int (own_sn a_DOUBLE a_NAME a_URI_QUALIFIED_NAME a_BRACED_URI_LITERAL))])
    refine own_by (fun t_ k_ => XS.iloadN X12.here hx rfl (hb hby at_37) rfl k_) ?_
    show own_Go p e below _ T12 (mkF m 38 #[.val (.int p1), .val (.int (5 : Int32)), .val (.ref a_DOUBLE), .val (.int (0 : Int32))] [(.int (0 : Int32)), (.int (own_sn a_DOUBLE a_NAME a_URI_QUALIFIED_NAME a_BRACED_URI_LITERAL))])
    refine own_icmp X12 hx 45 (hb hby at_38) (by decide) (by decide) (fun hc => absurd (show (own_sn a_DOUBLE a_NAME a_URI_QUALIFIED_NAME a_BRACED_URI_LITERAL) = (0 : Int32) from by simp [own_sn, Fld.ne F_ordinal_DOUBLE F_ordinal_NAME (by decide), Fld.ne F_ordinal_DOUBLE F_ordinal_URI_QUALIFIED_NAME (by decide), Fld.ne F_ordinal_DOUBLE F_ordinal_BRACED_URI_LITERAL (by decide)]) (by first | exact hc | exact not_not_intro hc)) (fun _ => ?_)
    show own_Go p e below _ T12 (mkF m 41 #[.val (.int p1), .val (.int (5 : Int32)), .val (.ref a_DOUBLE), .val (.int (0 : Int32))] [])
    refine own_by (fun t_ k_ => XS.iconst X12.here hx rfl (hb hby at_41) k_) ?_
    show own_Go p e below _ T12 (mkF m 42 #[.val (.int p1), .val (.int (5 : Int32)), .val (.ref a_DOUBLE), .val (.int (0 : Int32))] [(.int (1 : Int32))])
    refine own_by (fun t_ k_ => XS.goto X12.here hx rfl (pc0 := 42) (pc' := 46) rfl (hb hby at_42) (by decide) (by decide) k_) ?_
    show own_Go p e below _ T12 (mkF m 46 #[.val (.int p1), .val (.int (5 : Int32)), .val (.ref a_DOUBLE), .val (.int (0 : Int32))] [(.int (1 : Int32))])
    refine own_retZ X12 hx hlk Bd.returns (by decide) (hb hby at_46) e12 (by decide) (by decide) ?_
    exact ⟨rfl, N12⟩
  · show own_Go p e below _ s₁ (mkF m 8 #[.val (.int p1), .val (.int (6 : Int32)), .unset, .unset] [])
    refine own_by (fun t_ k_ => XS.iloadN X0.here hx rfl (hb hby at_8) rfl k_) ?_
    show own_Go p e below _ s₁ (mkF m 9 #[.val (.int p1), .val (.int (6 : Int32)), .unset, .unset] [(.int (6 : Int32))])
    refine own_callS (W := 0) X0 hx hZ (y := (⟨"com/example/quelex/quelex/KindStartsAsNamePinLaw", "kindAt", "(I)Lcom/example/quelex/quelex/Lexeme$Kind;"⟩ : MethodName)) hown (hw _ (List.mem_of_getElem? (i := 1) rfl)) (hw _ (List.mem_of_getElem? (i := 2) rfl)) (hw _ (List.mem_of_getElem? (i := 3) rfl)) (hw _ (List.mem_of_getElem? (i := 4) rfl)) (by decide) (by rw [hml]; rfl) (argsL := [(.int (6 : Int32))]) pd_0 rfl (rm1 l Z a0 hw [] (6 : Int32) a_STRING a_NAME a_URI_QUALIFIED_NAME a_BRACED_URI_LITERAL a_INTEGER a_DECIMAL a_DOUBLE a_STRING a_SYMBOL a_PREDEFINED_ENTITY_REF a_CHAR_REF a_ESCAPE_QUOT a_ESCAPE_APOS a_ELEMENT_CONTENT_CHAR a_QUOT_ATTR_CONTENT_CHAR a_APOS_ATTR_CONTENT_CHAR a_DIR_COMMENT_CONTENTS a_DIR_PI_CONTENTS a_CDATA_SECTION_CONTENTS a_PRAGMA_CONTENTS a_STRING_CONSTRUCTOR_CHARS a_END h0 n0 Z0 S_NAME S_URI_QUALIFIED_NAME S_BRACED_URI_LITERAL S_INTEGER S_DECIMAL S_DOUBLE S_STRING S_SYMBOL S_PREDEFINED_ENTITY_REF S_CHAR_REF S_ESCAPE_QUOT S_ESCAPE_APOS S_ELEMENT_CONTENT_CHAR S_QUOT_ATTR_CONTENT_CHAR S_APOS_ATTR_CONTENT_CHAR S_DIR_COMMENT_CONTENTS S_DIR_PI_CONTENTS S_CDATA_SECTION_CONTENTS S_PRAGMA_CONTENTS S_STRING_CONSTRUCTOR_CHARS S_END (Or.inr (Or.inr (Or.inr (Or.inr (Or.inr (Or.inr (Or.inl ⟨rfl, rfl⟩)))))))) (by decide) (by decide) (Nat.le_of_eq rfl) (by decide) (by decide) (rest := []) e0 rfl (hb hby at_9) ?_
    intro v13 T13 L13 X13 hQ13
    obtain ⟨rfl, N13q, e13⟩ := hQ13
    have N13 := Fr.app N0 N13q
    show own_Go p e below _ T13 (mkF m 12 #[.val (.int p1), .val (.int (6 : Int32)), .unset, .unset] [(.ref a_STRING)])
    refine own_by (fun t_ k_ => XS.astoreN X13.here hx rfl (hb hby at_12) rfl rfl (l' := #[.val (.int p1), .val (.int (6 : Int32)), .val (.ref a_STRING), .unset]) rfl k_) ?_
    show own_Go p e below _ T13 (mkF m 13 #[.val (.int p1), .val (.int (6 : Int32)), .val (.ref a_STRING), .unset] [])
    refine own_by (fun t_ k_ => XS.iloadN X13.here hx rfl (hb hby at_13) rfl k_) ?_
    show own_Go p e below _ T13 (mkF m 14 #[.val (.int p1), .val (.int (6 : Int32)), .val (.ref a_STRING), .unset] [(.int (6 : Int32))])
    refine own_if X13 hx 27 (hb hby at_14) (by decide) (by decide) (fun hc => absurd (show ¬ (6 : Int32) = (0 : Int32) from by decide) (by first | exact hc | exact not_not_intro hc)) (fun _ => ?_)
    show own_Go p e below _ T13 (mkF m 17 #[.val (.int p1), .val (.int (6 : Int32)), .val (.ref a_STRING), .unset] [])
    refine own_by (fun t_ k_ => XS.iloadN X13.here hx rfl (hb hby at_17) rfl k_) ?_
    show own_Go p e below _ T13 (mkF m 18 #[.val (.int p1), .val (.int (6 : Int32)), .val (.ref a_STRING), .unset] [(.int (6 : Int32))])
    refine own_by (fun t_ k_ => XS.iconst X13.here hx rfl (hb hby at_18) k_) ?_
    show own_Go p e below _ T13 (mkF m 19 #[.val (.int p1), .val (.int (6 : Int32)), .val (.ref a_STRING), .unset] [(.int (1 : Int32)), (.int (6 : Int32))])
    refine own_icmp X13 hx 27 (hb hby at_19) (by decide) (by decide) (fun hc => absurd (show ¬ (6 : Int32) = (1 : Int32) from by decide) (by first | exact hc | exact not_not_intro hc)) (fun _ => ?_)
    show own_Go p e below _ T13 (mkF m 22 #[.val (.int p1), .val (.int (6 : Int32)), .val (.ref a_STRING), .unset] [])
    refine own_by (fun t_ k_ => XS.iloadN X13.here hx rfl (hb hby at_22) rfl k_) ?_
    show own_Go p e below _ T13 (mkF m 23 #[.val (.int p1), .val (.int (6 : Int32)), .val (.ref a_STRING), .unset] [(.int (6 : Int32))])
    refine own_by (fun t_ k_ => XS.iconst X13.here hx rfl (hb hby at_23) k_) ?_
    show own_Go p e below _ T13 (mkF m 24 #[.val (.int p1), .val (.int (6 : Int32)), .val (.ref a_STRING), .unset] [(.int (2 : Int32)), (.int (6 : Int32))])
    refine own_icmp X13 hx 31 (hb hby at_24) (by decide) (by decide) (fun _ => ?_) (fun hc => absurd (show ¬ (6 : Int32) = (2 : Int32) from by decide) (by first | exact hc | exact not_not_intro hc))
    show own_Go p e below _ T13 (mkF m 31 #[.val (.int p1), .val (.int (6 : Int32)), .val (.ref a_STRING), .unset] [])
    refine own_by (fun t_ k_ => XS.iconst X13.here hx rfl (hb hby at_31) k_) ?_
    show own_Go p e below _ T13 (mkF m 32 #[.val (.int p1), .val (.int (6 : Int32)), .val (.ref a_STRING), .unset] [(.int (0 : Int32))])
    refine own_by (fun t_ k_ => XS.istoreN X13.here hx rfl (hb hby at_32) rfl (l' := #[.val (.int p1), .val (.int (6 : Int32)), .val (.ref a_STRING), .val (.int (0 : Int32))]) rfl k_) ?_
    show own_Go p e below _ T13 (mkF m 33 #[.val (.int p1), .val (.int (6 : Int32)), .val (.ref a_STRING), .val (.int (0 : Int32))] [])
    refine own_by (fun t_ k_ => XS.aloadN X13.here hx rfl (hb hby at_33) rfl rfl k_) ?_
    show own_Go p e below _ T13 (mkF m 34 #[.val (.int p1), .val (.int (6 : Int32)), .val (.ref a_STRING), .val (.int (0 : Int32))] [(.ref a_STRING)])
    refine own_callV (W := 0) X13 hx hZ (y := (⟨"com/example/quelex/quelex/Lexeme$Kind", "startsAsName", "()Z"⟩ : MethodName)) (z := (⟨"com/example/quelex/quelex/Lexeme$Kind", "startsAsName", "()Z"⟩ : MethodName)) hown (hw _ (List.mem_of_getElem? (i := 8) rfl)) (hw _ (List.mem_of_getElem? (i := 9) rfl)) (notFace_of_selects (args := #[]) (mvT hZ (hw _ (List.mem_of_getElem? (i := 11) rfl)))) (hw _ (List.mem_of_getElem? (i := 11) rfl)) (hw _ (List.mem_of_getElem? (i := 10) rfl)) (hw _ (List.mem_of_getElem? (i := 6) rfl)) (hw _ (List.mem_of_getElem? (i := 12) rfl)) (by decide) (by rw [hml]; rfl) (argsL := []) pd_1 rfl (a := a_STRING) e13 E_STRING (rm2 l Z a0 hw [] a_STRING a_NAME a_URI_QUALIFIED_NAME a_BRACED_URI_LITERAL h0 n0 Z0 S_NAME S_URI_QUALIFIED_NAME S_BRACED_URI_LITERAL) (by decide) (by decide) (Nat.le_of_eq rfl) (by decide) (by decide) (rest := []) rfl (hb hby at_34) ?_
    intro v14 T14 L14 X14 hQ14
    obtain ⟨rfl, N14q, e14⟩ := hQ14
    have N14 := Fr.app N13 N14q
    show own_Go p e below _ T14 (mkF m 37 #[.val (.int p1), .val (.int (6 : Int32)), .val (.ref a_STRING), .val (.int (0 : Int32))] [(.int (own_sn a_STRING a_NAME a_URI_QUALIFIED_NAME a_BRACED_URI_LITERAL))])
    refine own_by (fun t_ k_ => XS.iloadN X14.here hx rfl (hb hby at_37) rfl k_) ?_
    show own_Go p e below _ T14 (mkF m 38 #[.val (.int p1), .val (.int (6 : Int32)), .val (.ref a_STRING), .val (.int (0 : Int32))] [(.int (0 : Int32)), (.int (own_sn a_STRING a_NAME a_URI_QUALIFIED_NAME a_BRACED_URI_LITERAL))])
    refine own_icmp X14 hx 45 (hb hby at_38) (by decide) (by decide) (fun hc => absurd (show (own_sn a_STRING a_NAME a_URI_QUALIFIED_NAME a_BRACED_URI_LITERAL) = (0 : Int32) from by simp [own_sn, Fld.ne F_ordinal_STRING F_ordinal_NAME (by decide), Fld.ne F_ordinal_STRING F_ordinal_URI_QUALIFIED_NAME (by decide), Fld.ne F_ordinal_STRING F_ordinal_BRACED_URI_LITERAL (by decide)]) (by first | exact hc | exact not_not_intro hc)) (fun _ => ?_)
    show own_Go p e below _ T14 (mkF m 41 #[.val (.int p1), .val (.int (6 : Int32)), .val (.ref a_STRING), .val (.int (0 : Int32))] [])
    refine own_by (fun t_ k_ => XS.iconst X14.here hx rfl (hb hby at_41) k_) ?_
    show own_Go p e below _ T14 (mkF m 42 #[.val (.int p1), .val (.int (6 : Int32)), .val (.ref a_STRING), .val (.int (0 : Int32))] [(.int (1 : Int32))])
    refine own_by (fun t_ k_ => XS.goto X14.here hx rfl (pc0 := 42) (pc' := 46) rfl (hb hby at_42) (by decide) (by decide) k_) ?_
    show own_Go p e below _ T14 (mkF m 46 #[.val (.int p1), .val (.int (6 : Int32)), .val (.ref a_STRING), .val (.int (0 : Int32))] [(.int (1 : Int32))])
    refine own_retZ X14 hx hlk Bd.returns (by decide) (hb hby at_46) e14 (by decide) (by decide) ?_
    exact ⟨rfl, N14⟩
  · show own_Go p e below _ s₁ (mkF m 8 #[.val (.int p1), .val (.int (7 : Int32)), .unset, .unset] [])
    refine own_by (fun t_ k_ => XS.iloadN X0.here hx rfl (hb hby at_8) rfl k_) ?_
    show own_Go p e below _ s₁ (mkF m 9 #[.val (.int p1), .val (.int (7 : Int32)), .unset, .unset] [(.int (7 : Int32))])
    refine own_callS (W := 0) X0 hx hZ (y := (⟨"com/example/quelex/quelex/KindStartsAsNamePinLaw", "kindAt", "(I)Lcom/example/quelex/quelex/Lexeme$Kind;"⟩ : MethodName)) hown (hw _ (List.mem_of_getElem? (i := 1) rfl)) (hw _ (List.mem_of_getElem? (i := 2) rfl)) (hw _ (List.mem_of_getElem? (i := 3) rfl)) (hw _ (List.mem_of_getElem? (i := 4) rfl)) (by decide) (by rw [hml]; rfl) (argsL := [(.int (7 : Int32))]) pd_0 rfl (rm1 l Z a0 hw [] (7 : Int32) a_SYMBOL a_NAME a_URI_QUALIFIED_NAME a_BRACED_URI_LITERAL a_INTEGER a_DECIMAL a_DOUBLE a_STRING a_SYMBOL a_PREDEFINED_ENTITY_REF a_CHAR_REF a_ESCAPE_QUOT a_ESCAPE_APOS a_ELEMENT_CONTENT_CHAR a_QUOT_ATTR_CONTENT_CHAR a_APOS_ATTR_CONTENT_CHAR a_DIR_COMMENT_CONTENTS a_DIR_PI_CONTENTS a_CDATA_SECTION_CONTENTS a_PRAGMA_CONTENTS a_STRING_CONSTRUCTOR_CHARS a_END h0 n0 Z0 S_NAME S_URI_QUALIFIED_NAME S_BRACED_URI_LITERAL S_INTEGER S_DECIMAL S_DOUBLE S_STRING S_SYMBOL S_PREDEFINED_ENTITY_REF S_CHAR_REF S_ESCAPE_QUOT S_ESCAPE_APOS S_ELEMENT_CONTENT_CHAR S_QUOT_ATTR_CONTENT_CHAR S_APOS_ATTR_CONTENT_CHAR S_DIR_COMMENT_CONTENTS S_DIR_PI_CONTENTS S_CDATA_SECTION_CONTENTS S_PRAGMA_CONTENTS S_STRING_CONSTRUCTOR_CHARS S_END (Or.inr (Or.inr (Or.inr (Or.inr (Or.inr (Or.inr (Or.inr (Or.inl ⟨rfl, rfl⟩))))))))) (by decide) (by decide) (Nat.le_of_eq rfl) (by decide) (by decide) (rest := []) e0 rfl (hb hby at_9) ?_
    intro v15 T15 L15 X15 hQ15
    obtain ⟨rfl, N15q, e15⟩ := hQ15
    have N15 := Fr.app N0 N15q
    show own_Go p e below _ T15 (mkF m 12 #[.val (.int p1), .val (.int (7 : Int32)), .unset, .unset] [(.ref a_SYMBOL)])
    refine own_by (fun t_ k_ => XS.astoreN X15.here hx rfl (hb hby at_12) rfl rfl (l' := #[.val (.int p1), .val (.int (7 : Int32)), .val (.ref a_SYMBOL), .unset]) rfl k_) ?_
    show own_Go p e below _ T15 (mkF m 13 #[.val (.int p1), .val (.int (7 : Int32)), .val (.ref a_SYMBOL), .unset] [])
    refine own_by (fun t_ k_ => XS.iloadN X15.here hx rfl (hb hby at_13) rfl k_) ?_
    show own_Go p e below _ T15 (mkF m 14 #[.val (.int p1), .val (.int (7 : Int32)), .val (.ref a_SYMBOL), .unset] [(.int (7 : Int32))])
    refine own_if X15 hx 27 (hb hby at_14) (by decide) (by decide) (fun hc => absurd (show ¬ (7 : Int32) = (0 : Int32) from by decide) (by first | exact hc | exact not_not_intro hc)) (fun _ => ?_)
    show own_Go p e below _ T15 (mkF m 17 #[.val (.int p1), .val (.int (7 : Int32)), .val (.ref a_SYMBOL), .unset] [])
    refine own_by (fun t_ k_ => XS.iloadN X15.here hx rfl (hb hby at_17) rfl k_) ?_
    show own_Go p e below _ T15 (mkF m 18 #[.val (.int p1), .val (.int (7 : Int32)), .val (.ref a_SYMBOL), .unset] [(.int (7 : Int32))])
    refine own_by (fun t_ k_ => XS.iconst X15.here hx rfl (hb hby at_18) k_) ?_
    show own_Go p e below _ T15 (mkF m 19 #[.val (.int p1), .val (.int (7 : Int32)), .val (.ref a_SYMBOL), .unset] [(.int (1 : Int32)), (.int (7 : Int32))])
    refine own_icmp X15 hx 27 (hb hby at_19) (by decide) (by decide) (fun hc => absurd (show ¬ (7 : Int32) = (1 : Int32) from by decide) (by first | exact hc | exact not_not_intro hc)) (fun _ => ?_)
    show own_Go p e below _ T15 (mkF m 22 #[.val (.int p1), .val (.int (7 : Int32)), .val (.ref a_SYMBOL), .unset] [])
    refine own_by (fun t_ k_ => XS.iloadN X15.here hx rfl (hb hby at_22) rfl k_) ?_
    show own_Go p e below _ T15 (mkF m 23 #[.val (.int p1), .val (.int (7 : Int32)), .val (.ref a_SYMBOL), .unset] [(.int (7 : Int32))])
    refine own_by (fun t_ k_ => XS.iconst X15.here hx rfl (hb hby at_23) k_) ?_
    show own_Go p e below _ T15 (mkF m 24 #[.val (.int p1), .val (.int (7 : Int32)), .val (.ref a_SYMBOL), .unset] [(.int (2 : Int32)), (.int (7 : Int32))])
    refine own_icmp X15 hx 31 (hb hby at_24) (by decide) (by decide) (fun _ => ?_) (fun hc => absurd (show ¬ (7 : Int32) = (2 : Int32) from by decide) (by first | exact hc | exact not_not_intro hc))
    show own_Go p e below _ T15 (mkF m 31 #[.val (.int p1), .val (.int (7 : Int32)), .val (.ref a_SYMBOL), .unset] [])
    refine own_by (fun t_ k_ => XS.iconst X15.here hx rfl (hb hby at_31) k_) ?_
    show own_Go p e below _ T15 (mkF m 32 #[.val (.int p1), .val (.int (7 : Int32)), .val (.ref a_SYMBOL), .unset] [(.int (0 : Int32))])
    refine own_by (fun t_ k_ => XS.istoreN X15.here hx rfl (hb hby at_32) rfl (l' := #[.val (.int p1), .val (.int (7 : Int32)), .val (.ref a_SYMBOL), .val (.int (0 : Int32))]) rfl k_) ?_
    show own_Go p e below _ T15 (mkF m 33 #[.val (.int p1), .val (.int (7 : Int32)), .val (.ref a_SYMBOL), .val (.int (0 : Int32))] [])
    refine own_by (fun t_ k_ => XS.aloadN X15.here hx rfl (hb hby at_33) rfl rfl k_) ?_
    show own_Go p e below _ T15 (mkF m 34 #[.val (.int p1), .val (.int (7 : Int32)), .val (.ref a_SYMBOL), .val (.int (0 : Int32))] [(.ref a_SYMBOL)])
    refine own_callV (W := 0) X15 hx hZ (y := (⟨"com/example/quelex/quelex/Lexeme$Kind", "startsAsName", "()Z"⟩ : MethodName)) (z := (⟨"com/example/quelex/quelex/Lexeme$Kind", "startsAsName", "()Z"⟩ : MethodName)) hown (hw _ (List.mem_of_getElem? (i := 8) rfl)) (hw _ (List.mem_of_getElem? (i := 9) rfl)) (notFace_of_selects (args := #[]) (mvT hZ (hw _ (List.mem_of_getElem? (i := 11) rfl)))) (hw _ (List.mem_of_getElem? (i := 11) rfl)) (hw _ (List.mem_of_getElem? (i := 10) rfl)) (hw _ (List.mem_of_getElem? (i := 6) rfl)) (hw _ (List.mem_of_getElem? (i := 12) rfl)) (by decide) (by rw [hml]; rfl) (argsL := []) pd_1 rfl (a := a_SYMBOL) e15 E_SYMBOL (rm2 l Z a0 hw [] a_SYMBOL a_NAME a_URI_QUALIFIED_NAME a_BRACED_URI_LITERAL h0 n0 Z0 S_NAME S_URI_QUALIFIED_NAME S_BRACED_URI_LITERAL) (by decide) (by decide) (Nat.le_of_eq rfl) (by decide) (by decide) (rest := []) rfl (hb hby at_34) ?_
    intro v16 T16 L16 X16 hQ16
    obtain ⟨rfl, N16q, e16⟩ := hQ16
    have N16 := Fr.app N15 N16q
    show own_Go p e below _ T16 (mkF m 37 #[.val (.int p1), .val (.int (7 : Int32)), .val (.ref a_SYMBOL), .val (.int (0 : Int32))] [(.int (own_sn a_SYMBOL a_NAME a_URI_QUALIFIED_NAME a_BRACED_URI_LITERAL))])
    refine own_by (fun t_ k_ => XS.iloadN X16.here hx rfl (hb hby at_37) rfl k_) ?_
    show own_Go p e below _ T16 (mkF m 38 #[.val (.int p1), .val (.int (7 : Int32)), .val (.ref a_SYMBOL), .val (.int (0 : Int32))] [(.int (0 : Int32)), (.int (own_sn a_SYMBOL a_NAME a_URI_QUALIFIED_NAME a_BRACED_URI_LITERAL))])
    refine own_icmp X16 hx 45 (hb hby at_38) (by decide) (by decide) (fun hc => absurd (show (own_sn a_SYMBOL a_NAME a_URI_QUALIFIED_NAME a_BRACED_URI_LITERAL) = (0 : Int32) from by simp [own_sn, Fld.ne F_ordinal_SYMBOL F_ordinal_NAME (by decide), Fld.ne F_ordinal_SYMBOL F_ordinal_URI_QUALIFIED_NAME (by decide), Fld.ne F_ordinal_SYMBOL F_ordinal_BRACED_URI_LITERAL (by decide)]) (by first | exact hc | exact not_not_intro hc)) (fun _ => ?_)
    show own_Go p e below _ T16 (mkF m 41 #[.val (.int p1), .val (.int (7 : Int32)), .val (.ref a_SYMBOL), .val (.int (0 : Int32))] [])
    refine own_by (fun t_ k_ => XS.iconst X16.here hx rfl (hb hby at_41) k_) ?_
    show own_Go p e below _ T16 (mkF m 42 #[.val (.int p1), .val (.int (7 : Int32)), .val (.ref a_SYMBOL), .val (.int (0 : Int32))] [(.int (1 : Int32))])
    refine own_by (fun t_ k_ => XS.goto X16.here hx rfl (pc0 := 42) (pc' := 46) rfl (hb hby at_42) (by decide) (by decide) k_) ?_
    show own_Go p e below _ T16 (mkF m 46 #[.val (.int p1), .val (.int (7 : Int32)), .val (.ref a_SYMBOL), .val (.int (0 : Int32))] [(.int (1 : Int32))])
    refine own_retZ X16 hx hlk Bd.returns (by decide) (hb hby at_46) e16 (by decide) (by decide) ?_
    exact ⟨rfl, N16⟩
  · show own_Go p e below _ s₁ (mkF m 8 #[.val (.int p1), .val (.int (8 : Int32)), .unset, .unset] [])
    refine own_by (fun t_ k_ => XS.iloadN X0.here hx rfl (hb hby at_8) rfl k_) ?_
    show own_Go p e below _ s₁ (mkF m 9 #[.val (.int p1), .val (.int (8 : Int32)), .unset, .unset] [(.int (8 : Int32))])
    refine own_callS (W := 0) X0 hx hZ (y := (⟨"com/example/quelex/quelex/KindStartsAsNamePinLaw", "kindAt", "(I)Lcom/example/quelex/quelex/Lexeme$Kind;"⟩ : MethodName)) hown (hw _ (List.mem_of_getElem? (i := 1) rfl)) (hw _ (List.mem_of_getElem? (i := 2) rfl)) (hw _ (List.mem_of_getElem? (i := 3) rfl)) (hw _ (List.mem_of_getElem? (i := 4) rfl)) (by decide) (by rw [hml]; rfl) (argsL := [(.int (8 : Int32))]) pd_0 rfl (rm1 l Z a0 hw [] (8 : Int32) a_PREDEFINED_ENTITY_REF a_NAME a_URI_QUALIFIED_NAME a_BRACED_URI_LITERAL a_INTEGER a_DECIMAL a_DOUBLE a_STRING a_SYMBOL a_PREDEFINED_ENTITY_REF a_CHAR_REF a_ESCAPE_QUOT a_ESCAPE_APOS a_ELEMENT_CONTENT_CHAR a_QUOT_ATTR_CONTENT_CHAR a_APOS_ATTR_CONTENT_CHAR a_DIR_COMMENT_CONTENTS a_DIR_PI_CONTENTS a_CDATA_SECTION_CONTENTS a_PRAGMA_CONTENTS a_STRING_CONSTRUCTOR_CHARS a_END h0 n0 Z0 S_NAME S_URI_QUALIFIED_NAME S_BRACED_URI_LITERAL S_INTEGER S_DECIMAL S_DOUBLE S_STRING S_SYMBOL S_PREDEFINED_ENTITY_REF S_CHAR_REF S_ESCAPE_QUOT S_ESCAPE_APOS S_ELEMENT_CONTENT_CHAR S_QUOT_ATTR_CONTENT_CHAR S_APOS_ATTR_CONTENT_CHAR S_DIR_COMMENT_CONTENTS S_DIR_PI_CONTENTS S_CDATA_SECTION_CONTENTS S_PRAGMA_CONTENTS S_STRING_CONSTRUCTOR_CHARS S_END (Or.inr (Or.inr (Or.inr (Or.inr (Or.inr (Or.inr (Or.inr (Or.inr (Or.inl ⟨rfl, rfl⟩)))))))))) (by decide) (by decide) (Nat.le_of_eq rfl) (by decide) (by decide) (rest := []) e0 rfl (hb hby at_9) ?_
    intro v17 T17 L17 X17 hQ17
    obtain ⟨rfl, N17q, e17⟩ := hQ17
    have N17 := Fr.app N0 N17q
    show own_Go p e below _ T17 (mkF m 12 #[.val (.int p1), .val (.int (8 : Int32)), .unset, .unset] [(.ref a_PREDEFINED_ENTITY_REF)])
    refine own_by (fun t_ k_ => XS.astoreN X17.here hx rfl (hb hby at_12) rfl rfl (l' := #[.val (.int p1), .val (.int (8 : Int32)), .val (.ref a_PREDEFINED_ENTITY_REF), .unset]) rfl k_) ?_
    show own_Go p e below _ T17 (mkF m 13 #[.val (.int p1), .val (.int (8 : Int32)), .val (.ref a_PREDEFINED_ENTITY_REF), .unset] [])
    refine own_by (fun t_ k_ => XS.iloadN X17.here hx rfl (hb hby at_13) rfl k_) ?_
    show own_Go p e below _ T17 (mkF m 14 #[.val (.int p1), .val (.int (8 : Int32)), .val (.ref a_PREDEFINED_ENTITY_REF), .unset] [(.int (8 : Int32))])
    refine own_if X17 hx 27 (hb hby at_14) (by decide) (by decide) (fun hc => absurd (show ¬ (8 : Int32) = (0 : Int32) from by decide) (by first | exact hc | exact not_not_intro hc)) (fun _ => ?_)
    show own_Go p e below _ T17 (mkF m 17 #[.val (.int p1), .val (.int (8 : Int32)), .val (.ref a_PREDEFINED_ENTITY_REF), .unset] [])
    refine own_by (fun t_ k_ => XS.iloadN X17.here hx rfl (hb hby at_17) rfl k_) ?_
    show own_Go p e below _ T17 (mkF m 18 #[.val (.int p1), .val (.int (8 : Int32)), .val (.ref a_PREDEFINED_ENTITY_REF), .unset] [(.int (8 : Int32))])
    refine own_by (fun t_ k_ => XS.iconst X17.here hx rfl (hb hby at_18) k_) ?_
    show own_Go p e below _ T17 (mkF m 19 #[.val (.int p1), .val (.int (8 : Int32)), .val (.ref a_PREDEFINED_ENTITY_REF), .unset] [(.int (1 : Int32)), (.int (8 : Int32))])
    refine own_icmp X17 hx 27 (hb hby at_19) (by decide) (by decide) (fun hc => absurd (show ¬ (8 : Int32) = (1 : Int32) from by decide) (by first | exact hc | exact not_not_intro hc)) (fun _ => ?_)
    show own_Go p e below _ T17 (mkF m 22 #[.val (.int p1), .val (.int (8 : Int32)), .val (.ref a_PREDEFINED_ENTITY_REF), .unset] [])
    refine own_by (fun t_ k_ => XS.iloadN X17.here hx rfl (hb hby at_22) rfl k_) ?_
    show own_Go p e below _ T17 (mkF m 23 #[.val (.int p1), .val (.int (8 : Int32)), .val (.ref a_PREDEFINED_ENTITY_REF), .unset] [(.int (8 : Int32))])
    refine own_by (fun t_ k_ => XS.iconst X17.here hx rfl (hb hby at_23) k_) ?_
    show own_Go p e below _ T17 (mkF m 24 #[.val (.int p1), .val (.int (8 : Int32)), .val (.ref a_PREDEFINED_ENTITY_REF), .unset] [(.int (2 : Int32)), (.int (8 : Int32))])
    refine own_icmp X17 hx 31 (hb hby at_24) (by decide) (by decide) (fun _ => ?_) (fun hc => absurd (show ¬ (8 : Int32) = (2 : Int32) from by decide) (by first | exact hc | exact not_not_intro hc))
    show own_Go p e below _ T17 (mkF m 31 #[.val (.int p1), .val (.int (8 : Int32)), .val (.ref a_PREDEFINED_ENTITY_REF), .unset] [])
    refine own_by (fun t_ k_ => XS.iconst X17.here hx rfl (hb hby at_31) k_) ?_
    show own_Go p e below _ T17 (mkF m 32 #[.val (.int p1), .val (.int (8 : Int32)), .val (.ref a_PREDEFINED_ENTITY_REF), .unset] [(.int (0 : Int32))])
    refine own_by (fun t_ k_ => XS.istoreN X17.here hx rfl (hb hby at_32) rfl (l' := #[.val (.int p1), .val (.int (8 : Int32)), .val (.ref a_PREDEFINED_ENTITY_REF), .val (.int (0 : Int32))]) rfl k_) ?_
    show own_Go p e below _ T17 (mkF m 33 #[.val (.int p1), .val (.int (8 : Int32)), .val (.ref a_PREDEFINED_ENTITY_REF), .val (.int (0 : Int32))] [])
    refine own_by (fun t_ k_ => XS.aloadN X17.here hx rfl (hb hby at_33) rfl rfl k_) ?_
    show own_Go p e below _ T17 (mkF m 34 #[.val (.int p1), .val (.int (8 : Int32)), .val (.ref a_PREDEFINED_ENTITY_REF), .val (.int (0 : Int32))] [(.ref a_PREDEFINED_ENTITY_REF)])
    refine own_callV (W := 0) X17 hx hZ (y := (⟨"com/example/quelex/quelex/Lexeme$Kind", "startsAsName", "()Z"⟩ : MethodName)) (z := (⟨"com/example/quelex/quelex/Lexeme$Kind", "startsAsName", "()Z"⟩ : MethodName)) hown (hw _ (List.mem_of_getElem? (i := 8) rfl)) (hw _ (List.mem_of_getElem? (i := 9) rfl)) (notFace_of_selects (args := #[]) (mvT hZ (hw _ (List.mem_of_getElem? (i := 11) rfl)))) (hw _ (List.mem_of_getElem? (i := 11) rfl)) (hw _ (List.mem_of_getElem? (i := 10) rfl)) (hw _ (List.mem_of_getElem? (i := 6) rfl)) (hw _ (List.mem_of_getElem? (i := 12) rfl)) (by decide) (by rw [hml]; rfl) (argsL := []) pd_1 rfl (a := a_PREDEFINED_ENTITY_REF) e17 E_PREDEFINED_ENTITY_REF (rm2 l Z a0 hw [] a_PREDEFINED_ENTITY_REF a_NAME a_URI_QUALIFIED_NAME a_BRACED_URI_LITERAL h0 n0 Z0 S_NAME S_URI_QUALIFIED_NAME S_BRACED_URI_LITERAL) (by decide) (by decide) (Nat.le_of_eq rfl) (by decide) (by decide) (rest := []) rfl (hb hby at_34) ?_
    intro v18 T18 L18 X18 hQ18
    obtain ⟨rfl, N18q, e18⟩ := hQ18
    have N18 := Fr.app N17 N18q
    show own_Go p e below _ T18 (mkF m 37 #[.val (.int p1), .val (.int (8 : Int32)), .val (.ref a_PREDEFINED_ENTITY_REF), .val (.int (0 : Int32))] [(.int (own_sn a_PREDEFINED_ENTITY_REF a_NAME a_URI_QUALIFIED_NAME a_BRACED_URI_LITERAL))])
    refine own_by (fun t_ k_ => XS.iloadN X18.here hx rfl (hb hby at_37) rfl k_) ?_
    show own_Go p e below _ T18 (mkF m 38 #[.val (.int p1), .val (.int (8 : Int32)), .val (.ref a_PREDEFINED_ENTITY_REF), .val (.int (0 : Int32))] [(.int (0 : Int32)), (.int (own_sn a_PREDEFINED_ENTITY_REF a_NAME a_URI_QUALIFIED_NAME a_BRACED_URI_LITERAL))])
    refine own_icmp X18 hx 45 (hb hby at_38) (by decide) (by decide) (fun hc => absurd (show (own_sn a_PREDEFINED_ENTITY_REF a_NAME a_URI_QUALIFIED_NAME a_BRACED_URI_LITERAL) = (0 : Int32) from by simp [own_sn, Fld.ne F_ordinal_PREDEFINED_ENTITY_REF F_ordinal_NAME (by decide), Fld.ne F_ordinal_PREDEFINED_ENTITY_REF F_ordinal_URI_QUALIFIED_NAME (by decide), Fld.ne F_ordinal_PREDEFINED_ENTITY_REF F_ordinal_BRACED_URI_LITERAL (by decide)]) (by first | exact hc | exact not_not_intro hc)) (fun _ => ?_)
    show own_Go p e below _ T18 (mkF m 41 #[.val (.int p1), .val (.int (8 : Int32)), .val (.ref a_PREDEFINED_ENTITY_REF), .val (.int (0 : Int32))] [])
    refine own_by (fun t_ k_ => XS.iconst X18.here hx rfl (hb hby at_41) k_) ?_
    show own_Go p e below _ T18 (mkF m 42 #[.val (.int p1), .val (.int (8 : Int32)), .val (.ref a_PREDEFINED_ENTITY_REF), .val (.int (0 : Int32))] [(.int (1 : Int32))])
    refine own_by (fun t_ k_ => XS.goto X18.here hx rfl (pc0 := 42) (pc' := 46) rfl (hb hby at_42) (by decide) (by decide) k_) ?_
    show own_Go p e below _ T18 (mkF m 46 #[.val (.int p1), .val (.int (8 : Int32)), .val (.ref a_PREDEFINED_ENTITY_REF), .val (.int (0 : Int32))] [(.int (1 : Int32))])
    refine own_retZ X18 hx hlk Bd.returns (by decide) (hb hby at_46) e18 (by decide) (by decide) ?_
    exact ⟨rfl, N18⟩
  · show own_Go p e below _ s₁ (mkF m 8 #[.val (.int p1), .val (.int (9 : Int32)), .unset, .unset] [])
    refine own_by (fun t_ k_ => XS.iloadN X0.here hx rfl (hb hby at_8) rfl k_) ?_
    show own_Go p e below _ s₁ (mkF m 9 #[.val (.int p1), .val (.int (9 : Int32)), .unset, .unset] [(.int (9 : Int32))])
    refine own_callS (W := 0) X0 hx hZ (y := (⟨"com/example/quelex/quelex/KindStartsAsNamePinLaw", "kindAt", "(I)Lcom/example/quelex/quelex/Lexeme$Kind;"⟩ : MethodName)) hown (hw _ (List.mem_of_getElem? (i := 1) rfl)) (hw _ (List.mem_of_getElem? (i := 2) rfl)) (hw _ (List.mem_of_getElem? (i := 3) rfl)) (hw _ (List.mem_of_getElem? (i := 4) rfl)) (by decide) (by rw [hml]; rfl) (argsL := [(.int (9 : Int32))]) pd_0 rfl (rm1 l Z a0 hw [] (9 : Int32) a_CHAR_REF a_NAME a_URI_QUALIFIED_NAME a_BRACED_URI_LITERAL a_INTEGER a_DECIMAL a_DOUBLE a_STRING a_SYMBOL a_PREDEFINED_ENTITY_REF a_CHAR_REF a_ESCAPE_QUOT a_ESCAPE_APOS a_ELEMENT_CONTENT_CHAR a_QUOT_ATTR_CONTENT_CHAR a_APOS_ATTR_CONTENT_CHAR a_DIR_COMMENT_CONTENTS a_DIR_PI_CONTENTS a_CDATA_SECTION_CONTENTS a_PRAGMA_CONTENTS a_STRING_CONSTRUCTOR_CHARS a_END h0 n0 Z0 S_NAME S_URI_QUALIFIED_NAME S_BRACED_URI_LITERAL S_INTEGER S_DECIMAL S_DOUBLE S_STRING S_SYMBOL S_PREDEFINED_ENTITY_REF S_CHAR_REF S_ESCAPE_QUOT S_ESCAPE_APOS S_ELEMENT_CONTENT_CHAR S_QUOT_ATTR_CONTENT_CHAR S_APOS_ATTR_CONTENT_CHAR S_DIR_COMMENT_CONTENTS S_DIR_PI_CONTENTS S_CDATA_SECTION_CONTENTS S_PRAGMA_CONTENTS S_STRING_CONSTRUCTOR_CHARS S_END (Or.inr (Or.inr (Or.inr (Or.inr (Or.inr (Or.inr (Or.inr (Or.inr (Or.inr (Or.inl ⟨rfl, rfl⟩))))))))))) (by decide) (by decide) (Nat.le_of_eq rfl) (by decide) (by decide) (rest := []) e0 rfl (hb hby at_9) ?_
    intro v19 T19 L19 X19 hQ19
    obtain ⟨rfl, N19q, e19⟩ := hQ19
    have N19 := Fr.app N0 N19q
    show own_Go p e below _ T19 (mkF m 12 #[.val (.int p1), .val (.int (9 : Int32)), .unset, .unset] [(.ref a_CHAR_REF)])
    refine own_by (fun t_ k_ => XS.astoreN X19.here hx rfl (hb hby at_12) rfl rfl (l' := #[.val (.int p1), .val (.int (9 : Int32)), .val (.ref a_CHAR_REF), .unset]) rfl k_) ?_
    show own_Go p e below _ T19 (mkF m 13 #[.val (.int p1), .val (.int (9 : Int32)), .val (.ref a_CHAR_REF), .unset] [])
    refine own_by (fun t_ k_ => XS.iloadN X19.here hx rfl (hb hby at_13) rfl k_) ?_
    show own_Go p e below _ T19 (mkF m 14 #[.val (.int p1), .val (.int (9 : Int32)), .val (.ref a_CHAR_REF), .unset] [(.int (9 : Int32))])
    refine own_if X19 hx 27 (hb hby at_14) (by decide) (by decide) (fun hc => absurd (show ¬ (9 : Int32) = (0 : Int32) from by decide) (by first | exact hc | exact not_not_intro hc)) (fun _ => ?_)
    show own_Go p e below _ T19 (mkF m 17 #[.val (.int p1), .val (.int (9 : Int32)), .val (.ref a_CHAR_REF), .unset] [])
    refine own_by (fun t_ k_ => XS.iloadN X19.here hx rfl (hb hby at_17) rfl k_) ?_
    show own_Go p e below _ T19 (mkF m 18 #[.val (.int p1), .val (.int (9 : Int32)), .val (.ref a_CHAR_REF), .unset] [(.int (9 : Int32))])
    refine own_by (fun t_ k_ => XS.iconst X19.here hx rfl (hb hby at_18) k_) ?_
    show own_Go p e below _ T19 (mkF m 19 #[.val (.int p1), .val (.int (9 : Int32)), .val (.ref a_CHAR_REF), .unset] [(.int (1 : Int32)), (.int (9 : Int32))])
    refine own_icmp X19 hx 27 (hb hby at_19) (by decide) (by decide) (fun hc => absurd (show ¬ (9 : Int32) = (1 : Int32) from by decide) (by first | exact hc | exact not_not_intro hc)) (fun _ => ?_)
    show own_Go p e below _ T19 (mkF m 22 #[.val (.int p1), .val (.int (9 : Int32)), .val (.ref a_CHAR_REF), .unset] [])
    refine own_by (fun t_ k_ => XS.iloadN X19.here hx rfl (hb hby at_22) rfl k_) ?_
    show own_Go p e below _ T19 (mkF m 23 #[.val (.int p1), .val (.int (9 : Int32)), .val (.ref a_CHAR_REF), .unset] [(.int (9 : Int32))])
    refine own_by (fun t_ k_ => XS.iconst X19.here hx rfl (hb hby at_23) k_) ?_
    show own_Go p e below _ T19 (mkF m 24 #[.val (.int p1), .val (.int (9 : Int32)), .val (.ref a_CHAR_REF), .unset] [(.int (2 : Int32)), (.int (9 : Int32))])
    refine own_icmp X19 hx 31 (hb hby at_24) (by decide) (by decide) (fun _ => ?_) (fun hc => absurd (show ¬ (9 : Int32) = (2 : Int32) from by decide) (by first | exact hc | exact not_not_intro hc))
    show own_Go p e below _ T19 (mkF m 31 #[.val (.int p1), .val (.int (9 : Int32)), .val (.ref a_CHAR_REF), .unset] [])
    refine own_by (fun t_ k_ => XS.iconst X19.here hx rfl (hb hby at_31) k_) ?_
    show own_Go p e below _ T19 (mkF m 32 #[.val (.int p1), .val (.int (9 : Int32)), .val (.ref a_CHAR_REF), .unset] [(.int (0 : Int32))])
    refine own_by (fun t_ k_ => XS.istoreN X19.here hx rfl (hb hby at_32) rfl (l' := #[.val (.int p1), .val (.int (9 : Int32)), .val (.ref a_CHAR_REF), .val (.int (0 : Int32))]) rfl k_) ?_
    show own_Go p e below _ T19 (mkF m 33 #[.val (.int p1), .val (.int (9 : Int32)), .val (.ref a_CHAR_REF), .val (.int (0 : Int32))] [])
    refine own_by (fun t_ k_ => XS.aloadN X19.here hx rfl (hb hby at_33) rfl rfl k_) ?_
    show own_Go p e below _ T19 (mkF m 34 #[.val (.int p1), .val (.int (9 : Int32)), .val (.ref a_CHAR_REF), .val (.int (0 : Int32))] [(.ref a_CHAR_REF)])
    refine own_callV (W := 0) X19 hx hZ (y := (⟨"com/example/quelex/quelex/Lexeme$Kind", "startsAsName", "()Z"⟩ : MethodName)) (z := (⟨"com/example/quelex/quelex/Lexeme$Kind", "startsAsName", "()Z"⟩ : MethodName)) hown (hw _ (List.mem_of_getElem? (i := 8) rfl)) (hw _ (List.mem_of_getElem? (i := 9) rfl)) (notFace_of_selects (args := #[]) (mvT hZ (hw _ (List.mem_of_getElem? (i := 11) rfl)))) (hw _ (List.mem_of_getElem? (i := 11) rfl)) (hw _ (List.mem_of_getElem? (i := 10) rfl)) (hw _ (List.mem_of_getElem? (i := 6) rfl)) (hw _ (List.mem_of_getElem? (i := 12) rfl)) (by decide) (by rw [hml]; rfl) (argsL := []) pd_1 rfl (a := a_CHAR_REF) e19 E_CHAR_REF (rm2 l Z a0 hw [] a_CHAR_REF a_NAME a_URI_QUALIFIED_NAME a_BRACED_URI_LITERAL h0 n0 Z0 S_NAME S_URI_QUALIFIED_NAME S_BRACED_URI_LITERAL) (by decide) (by decide) (Nat.le_of_eq rfl) (by decide) (by decide) (rest := []) rfl (hb hby at_34) ?_
    intro v20 T20 L20 X20 hQ20
    obtain ⟨rfl, N20q, e20⟩ := hQ20
    have N20 := Fr.app N19 N20q
    show own_Go p e below _ T20 (mkF m 37 #[.val (.int p1), .val (.int (9 : Int32)), .val (.ref a_CHAR_REF), .val (.int (0 : Int32))] [(.int (own_sn a_CHAR_REF a_NAME a_URI_QUALIFIED_NAME a_BRACED_URI_LITERAL))])
    refine own_by (fun t_ k_ => XS.iloadN X20.here hx rfl (hb hby at_37) rfl k_) ?_
    show own_Go p e below _ T20 (mkF m 38 #[.val (.int p1), .val (.int (9 : Int32)), .val (.ref a_CHAR_REF), .val (.int (0 : Int32))] [(.int (0 : Int32)), (.int (own_sn a_CHAR_REF a_NAME a_URI_QUALIFIED_NAME a_BRACED_URI_LITERAL))])
    refine own_icmp X20 hx 45 (hb hby at_38) (by decide) (by decide) (fun hc => absurd (show (own_sn a_CHAR_REF a_NAME a_URI_QUALIFIED_NAME a_BRACED_URI_LITERAL) = (0 : Int32) from by simp [own_sn, Fld.ne F_ordinal_CHAR_REF F_ordinal_NAME (by decide), Fld.ne F_ordinal_CHAR_REF F_ordinal_URI_QUALIFIED_NAME (by decide), Fld.ne F_ordinal_CHAR_REF F_ordinal_BRACED_URI_LITERAL (by decide)]) (by first | exact hc | exact not_not_intro hc)) (fun _ => ?_)
    show own_Go p e below _ T20 (mkF m 41 #[.val (.int p1), .val (.int (9 : Int32)), .val (.ref a_CHAR_REF), .val (.int (0 : Int32))] [])
    refine own_by (fun t_ k_ => XS.iconst X20.here hx rfl (hb hby at_41) k_) ?_
    show own_Go p e below _ T20 (mkF m 42 #[.val (.int p1), .val (.int (9 : Int32)), .val (.ref a_CHAR_REF), .val (.int (0 : Int32))] [(.int (1 : Int32))])
    refine own_by (fun t_ k_ => XS.goto X20.here hx rfl (pc0 := 42) (pc' := 46) rfl (hb hby at_42) (by decide) (by decide) k_) ?_
    show own_Go p e below _ T20 (mkF m 46 #[.val (.int p1), .val (.int (9 : Int32)), .val (.ref a_CHAR_REF), .val (.int (0 : Int32))] [(.int (1 : Int32))])
    refine own_retZ X20 hx hlk Bd.returns (by decide) (hb hby at_46) e20 (by decide) (by decide) ?_
    exact ⟨rfl, N20⟩
  · show own_Go p e below _ s₁ (mkF m 8 #[.val (.int p1), .val (.int (10 : Int32)), .unset, .unset] [])
    refine own_by (fun t_ k_ => XS.iloadN X0.here hx rfl (hb hby at_8) rfl k_) ?_
    show own_Go p e below _ s₁ (mkF m 9 #[.val (.int p1), .val (.int (10 : Int32)), .unset, .unset] [(.int (10 : Int32))])
    refine own_callS (W := 0) X0 hx hZ (y := (⟨"com/example/quelex/quelex/KindStartsAsNamePinLaw", "kindAt", "(I)Lcom/example/quelex/quelex/Lexeme$Kind;"⟩ : MethodName)) hown (hw _ (List.mem_of_getElem? (i := 1) rfl)) (hw _ (List.mem_of_getElem? (i := 2) rfl)) (hw _ (List.mem_of_getElem? (i := 3) rfl)) (hw _ (List.mem_of_getElem? (i := 4) rfl)) (by decide) (by rw [hml]; rfl) (argsL := [(.int (10 : Int32))]) pd_0 rfl (rm1 l Z a0 hw [] (10 : Int32) a_ESCAPE_QUOT a_NAME a_URI_QUALIFIED_NAME a_BRACED_URI_LITERAL a_INTEGER a_DECIMAL a_DOUBLE a_STRING a_SYMBOL a_PREDEFINED_ENTITY_REF a_CHAR_REF a_ESCAPE_QUOT a_ESCAPE_APOS a_ELEMENT_CONTENT_CHAR a_QUOT_ATTR_CONTENT_CHAR a_APOS_ATTR_CONTENT_CHAR a_DIR_COMMENT_CONTENTS a_DIR_PI_CONTENTS a_CDATA_SECTION_CONTENTS a_PRAGMA_CONTENTS a_STRING_CONSTRUCTOR_CHARS a_END h0 n0 Z0 S_NAME S_URI_QUALIFIED_NAME S_BRACED_URI_LITERAL S_INTEGER S_DECIMAL S_DOUBLE S_STRING S_SYMBOL S_PREDEFINED_ENTITY_REF S_CHAR_REF S_ESCAPE_QUOT S_ESCAPE_APOS S_ELEMENT_CONTENT_CHAR S_QUOT_ATTR_CONTENT_CHAR S_APOS_ATTR_CONTENT_CHAR S_DIR_COMMENT_CONTENTS S_DIR_PI_CONTENTS S_CDATA_SECTION_CONTENTS S_PRAGMA_CONTENTS S_STRING_CONSTRUCTOR_CHARS S_END (Or.inr (Or.inr (Or.inr (Or.inr (Or.inr (Or.inr (Or.inr (Or.inr (Or.inr (Or.inr (Or.inl ⟨rfl, rfl⟩)))))))))))) (by decide) (by decide) (Nat.le_of_eq rfl) (by decide) (by decide) (rest := []) e0 rfl (hb hby at_9) ?_
    intro v21 T21 L21 X21 hQ21
    obtain ⟨rfl, N21q, e21⟩ := hQ21
    have N21 := Fr.app N0 N21q
    show own_Go p e below _ T21 (mkF m 12 #[.val (.int p1), .val (.int (10 : Int32)), .unset, .unset] [(.ref a_ESCAPE_QUOT)])
    refine own_by (fun t_ k_ => XS.astoreN X21.here hx rfl (hb hby at_12) rfl rfl (l' := #[.val (.int p1), .val (.int (10 : Int32)), .val (.ref a_ESCAPE_QUOT), .unset]) rfl k_) ?_
    show own_Go p e below _ T21 (mkF m 13 #[.val (.int p1), .val (.int (10 : Int32)), .val (.ref a_ESCAPE_QUOT), .unset] [])
    refine own_by (fun t_ k_ => XS.iloadN X21.here hx rfl (hb hby at_13) rfl k_) ?_
    show own_Go p e below _ T21 (mkF m 14 #[.val (.int p1), .val (.int (10 : Int32)), .val (.ref a_ESCAPE_QUOT), .unset] [(.int (10 : Int32))])
    refine own_if X21 hx 27 (hb hby at_14) (by decide) (by decide) (fun hc => absurd (show ¬ (10 : Int32) = (0 : Int32) from by decide) (by first | exact hc | exact not_not_intro hc)) (fun _ => ?_)
    show own_Go p e below _ T21 (mkF m 17 #[.val (.int p1), .val (.int (10 : Int32)), .val (.ref a_ESCAPE_QUOT), .unset] [])
    refine own_by (fun t_ k_ => XS.iloadN X21.here hx rfl (hb hby at_17) rfl k_) ?_
    show own_Go p e below _ T21 (mkF m 18 #[.val (.int p1), .val (.int (10 : Int32)), .val (.ref a_ESCAPE_QUOT), .unset] [(.int (10 : Int32))])
    refine own_by (fun t_ k_ => XS.iconst X21.here hx rfl (hb hby at_18) k_) ?_
    show own_Go p e below _ T21 (mkF m 19 #[.val (.int p1), .val (.int (10 : Int32)), .val (.ref a_ESCAPE_QUOT), .unset] [(.int (1 : Int32)), (.int (10 : Int32))])
    refine own_icmp X21 hx 27 (hb hby at_19) (by decide) (by decide) (fun hc => absurd (show ¬ (10 : Int32) = (1 : Int32) from by decide) (by first | exact hc | exact not_not_intro hc)) (fun _ => ?_)
    show own_Go p e below _ T21 (mkF m 22 #[.val (.int p1), .val (.int (10 : Int32)), .val (.ref a_ESCAPE_QUOT), .unset] [])
    refine own_by (fun t_ k_ => XS.iloadN X21.here hx rfl (hb hby at_22) rfl k_) ?_
    show own_Go p e below _ T21 (mkF m 23 #[.val (.int p1), .val (.int (10 : Int32)), .val (.ref a_ESCAPE_QUOT), .unset] [(.int (10 : Int32))])
    refine own_by (fun t_ k_ => XS.iconst X21.here hx rfl (hb hby at_23) k_) ?_
    show own_Go p e below _ T21 (mkF m 24 #[.val (.int p1), .val (.int (10 : Int32)), .val (.ref a_ESCAPE_QUOT), .unset] [(.int (2 : Int32)), (.int (10 : Int32))])
    refine own_icmp X21 hx 31 (hb hby at_24) (by decide) (by decide) (fun _ => ?_) (fun hc => absurd (show ¬ (10 : Int32) = (2 : Int32) from by decide) (by first | exact hc | exact not_not_intro hc))
    show own_Go p e below _ T21 (mkF m 31 #[.val (.int p1), .val (.int (10 : Int32)), .val (.ref a_ESCAPE_QUOT), .unset] [])
    refine own_by (fun t_ k_ => XS.iconst X21.here hx rfl (hb hby at_31) k_) ?_
    show own_Go p e below _ T21 (mkF m 32 #[.val (.int p1), .val (.int (10 : Int32)), .val (.ref a_ESCAPE_QUOT), .unset] [(.int (0 : Int32))])
    refine own_by (fun t_ k_ => XS.istoreN X21.here hx rfl (hb hby at_32) rfl (l' := #[.val (.int p1), .val (.int (10 : Int32)), .val (.ref a_ESCAPE_QUOT), .val (.int (0 : Int32))]) rfl k_) ?_
    show own_Go p e below _ T21 (mkF m 33 #[.val (.int p1), .val (.int (10 : Int32)), .val (.ref a_ESCAPE_QUOT), .val (.int (0 : Int32))] [])
    refine own_by (fun t_ k_ => XS.aloadN X21.here hx rfl (hb hby at_33) rfl rfl k_) ?_
    show own_Go p e below _ T21 (mkF m 34 #[.val (.int p1), .val (.int (10 : Int32)), .val (.ref a_ESCAPE_QUOT), .val (.int (0 : Int32))] [(.ref a_ESCAPE_QUOT)])
    refine own_callV (W := 0) X21 hx hZ (y := (⟨"com/example/quelex/quelex/Lexeme$Kind", "startsAsName", "()Z"⟩ : MethodName)) (z := (⟨"com/example/quelex/quelex/Lexeme$Kind", "startsAsName", "()Z"⟩ : MethodName)) hown (hw _ (List.mem_of_getElem? (i := 8) rfl)) (hw _ (List.mem_of_getElem? (i := 9) rfl)) (notFace_of_selects (args := #[]) (mvT hZ (hw _ (List.mem_of_getElem? (i := 11) rfl)))) (hw _ (List.mem_of_getElem? (i := 11) rfl)) (hw _ (List.mem_of_getElem? (i := 10) rfl)) (hw _ (List.mem_of_getElem? (i := 6) rfl)) (hw _ (List.mem_of_getElem? (i := 12) rfl)) (by decide) (by rw [hml]; rfl) (argsL := []) pd_1 rfl (a := a_ESCAPE_QUOT) e21 E_ESCAPE_QUOT (rm2 l Z a0 hw [] a_ESCAPE_QUOT a_NAME a_URI_QUALIFIED_NAME a_BRACED_URI_LITERAL h0 n0 Z0 S_NAME S_URI_QUALIFIED_NAME S_BRACED_URI_LITERAL) (by decide) (by decide) (Nat.le_of_eq rfl) (by decide) (by decide) (rest := []) rfl (hb hby at_34) ?_
    intro v22 T22 L22 X22 hQ22
    obtain ⟨rfl, N22q, e22⟩ := hQ22
    have N22 := Fr.app N21 N22q
    show own_Go p e below _ T22 (mkF m 37 #[.val (.int p1), .val (.int (10 : Int32)), .val (.ref a_ESCAPE_QUOT), .val (.int (0 : Int32))] [(.int (own_sn a_ESCAPE_QUOT a_NAME a_URI_QUALIFIED_NAME a_BRACED_URI_LITERAL))])
    refine own_by (fun t_ k_ => XS.iloadN X22.here hx rfl (hb hby at_37) rfl k_) ?_
    show own_Go p e below _ T22 (mkF m 38 #[.val (.int p1), .val (.int (10 : Int32)), .val (.ref a_ESCAPE_QUOT), .val (.int (0 : Int32))] [(.int (0 : Int32)), (.int (own_sn a_ESCAPE_QUOT a_NAME a_URI_QUALIFIED_NAME a_BRACED_URI_LITERAL))])
    refine own_icmp X22 hx 45 (hb hby at_38) (by decide) (by decide) (fun hc => absurd (show (own_sn a_ESCAPE_QUOT a_NAME a_URI_QUALIFIED_NAME a_BRACED_URI_LITERAL) = (0 : Int32) from by simp [own_sn, Fld.ne F_ordinal_ESCAPE_QUOT F_ordinal_NAME (by decide), Fld.ne F_ordinal_ESCAPE_QUOT F_ordinal_URI_QUALIFIED_NAME (by decide), Fld.ne F_ordinal_ESCAPE_QUOT F_ordinal_BRACED_URI_LITERAL (by decide)]) (by first | exact hc | exact not_not_intro hc)) (fun _ => ?_)
    show own_Go p e below _ T22 (mkF m 41 #[.val (.int p1), .val (.int (10 : Int32)), .val (.ref a_ESCAPE_QUOT), .val (.int (0 : Int32))] [])
    refine own_by (fun t_ k_ => XS.iconst X22.here hx rfl (hb hby at_41) k_) ?_
    show own_Go p e below _ T22 (mkF m 42 #[.val (.int p1), .val (.int (10 : Int32)), .val (.ref a_ESCAPE_QUOT), .val (.int (0 : Int32))] [(.int (1 : Int32))])
    refine own_by (fun t_ k_ => XS.goto X22.here hx rfl (pc0 := 42) (pc' := 46) rfl (hb hby at_42) (by decide) (by decide) k_) ?_
    show own_Go p e below _ T22 (mkF m 46 #[.val (.int p1), .val (.int (10 : Int32)), .val (.ref a_ESCAPE_QUOT), .val (.int (0 : Int32))] [(.int (1 : Int32))])
    refine own_retZ X22 hx hlk Bd.returns (by decide) (hb hby at_46) e22 (by decide) (by decide) ?_
    exact ⟨rfl, N22⟩
  · show own_Go p e below _ s₁ (mkF m 8 #[.val (.int p1), .val (.int (11 : Int32)), .unset, .unset] [])
    refine own_by (fun t_ k_ => XS.iloadN X0.here hx rfl (hb hby at_8) rfl k_) ?_
    show own_Go p e below _ s₁ (mkF m 9 #[.val (.int p1), .val (.int (11 : Int32)), .unset, .unset] [(.int (11 : Int32))])
    refine own_callS (W := 0) X0 hx hZ (y := (⟨"com/example/quelex/quelex/KindStartsAsNamePinLaw", "kindAt", "(I)Lcom/example/quelex/quelex/Lexeme$Kind;"⟩ : MethodName)) hown (hw _ (List.mem_of_getElem? (i := 1) rfl)) (hw _ (List.mem_of_getElem? (i := 2) rfl)) (hw _ (List.mem_of_getElem? (i := 3) rfl)) (hw _ (List.mem_of_getElem? (i := 4) rfl)) (by decide) (by rw [hml]; rfl) (argsL := [(.int (11 : Int32))]) pd_0 rfl (rm1 l Z a0 hw [] (11 : Int32) a_ESCAPE_APOS a_NAME a_URI_QUALIFIED_NAME a_BRACED_URI_LITERAL a_INTEGER a_DECIMAL a_DOUBLE a_STRING a_SYMBOL a_PREDEFINED_ENTITY_REF a_CHAR_REF a_ESCAPE_QUOT a_ESCAPE_APOS a_ELEMENT_CONTENT_CHAR a_QUOT_ATTR_CONTENT_CHAR a_APOS_ATTR_CONTENT_CHAR a_DIR_COMMENT_CONTENTS a_DIR_PI_CONTENTS a_CDATA_SECTION_CONTENTS a_PRAGMA_CONTENTS a_STRING_CONSTRUCTOR_CHARS a_END h0 n0 Z0 S_NAME S_URI_QUALIFIED_NAME S_BRACED_URI_LITERAL S_INTEGER S_DECIMAL S_DOUBLE S_STRING S_SYMBOL S_PREDEFINED_ENTITY_REF S_CHAR_REF S_ESCAPE_QUOT S_ESCAPE_APOS S_ELEMENT_CONTENT_CHAR S_QUOT_ATTR_CONTENT_CHAR S_APOS_ATTR_CONTENT_CHAR S_DIR_COMMENT_CONTENTS S_DIR_PI_CONTENTS S_CDATA_SECTION_CONTENTS S_PRAGMA_CONTENTS S_STRING_CONSTRUCTOR_CHARS S_END (Or.inr (Or.inr (Or.inr (Or.inr (Or.inr (Or.inr (Or.inr (Or.inr (Or.inr (Or.inr (Or.inr (Or.inl ⟨rfl, rfl⟩))))))))))))) (by decide) (by decide) (Nat.le_of_eq rfl) (by decide) (by decide) (rest := []) e0 rfl (hb hby at_9) ?_
    intro v23 T23 L23 X23 hQ23
    obtain ⟨rfl, N23q, e23⟩ := hQ23
    have N23 := Fr.app N0 N23q
    show own_Go p e below _ T23 (mkF m 12 #[.val (.int p1), .val (.int (11 : Int32)), .unset, .unset] [(.ref a_ESCAPE_APOS)])
    refine own_by (fun t_ k_ => XS.astoreN X23.here hx rfl (hb hby at_12) rfl rfl (l' := #[.val (.int p1), .val (.int (11 : Int32)), .val (.ref a_ESCAPE_APOS), .unset]) rfl k_) ?_
    show own_Go p e below _ T23 (mkF m 13 #[.val (.int p1), .val (.int (11 : Int32)), .val (.ref a_ESCAPE_APOS), .unset] [])
    refine own_by (fun t_ k_ => XS.iloadN X23.here hx rfl (hb hby at_13) rfl k_) ?_
    show own_Go p e below _ T23 (mkF m 14 #[.val (.int p1), .val (.int (11 : Int32)), .val (.ref a_ESCAPE_APOS), .unset] [(.int (11 : Int32))])
    refine own_if X23 hx 27 (hb hby at_14) (by decide) (by decide) (fun hc => absurd (show ¬ (11 : Int32) = (0 : Int32) from by decide) (by first | exact hc | exact not_not_intro hc)) (fun _ => ?_)
    show own_Go p e below _ T23 (mkF m 17 #[.val (.int p1), .val (.int (11 : Int32)), .val (.ref a_ESCAPE_APOS), .unset] [])
    refine own_by (fun t_ k_ => XS.iloadN X23.here hx rfl (hb hby at_17) rfl k_) ?_
    show own_Go p e below _ T23 (mkF m 18 #[.val (.int p1), .val (.int (11 : Int32)), .val (.ref a_ESCAPE_APOS), .unset] [(.int (11 : Int32))])
    refine own_by (fun t_ k_ => XS.iconst X23.here hx rfl (hb hby at_18) k_) ?_
    show own_Go p e below _ T23 (mkF m 19 #[.val (.int p1), .val (.int (11 : Int32)), .val (.ref a_ESCAPE_APOS), .unset] [(.int (1 : Int32)), (.int (11 : Int32))])
    refine own_icmp X23 hx 27 (hb hby at_19) (by decide) (by decide) (fun hc => absurd (show ¬ (11 : Int32) = (1 : Int32) from by decide) (by first | exact hc | exact not_not_intro hc)) (fun _ => ?_)
    show own_Go p e below _ T23 (mkF m 22 #[.val (.int p1), .val (.int (11 : Int32)), .val (.ref a_ESCAPE_APOS), .unset] [])
    refine own_by (fun t_ k_ => XS.iloadN X23.here hx rfl (hb hby at_22) rfl k_) ?_
    show own_Go p e below _ T23 (mkF m 23 #[.val (.int p1), .val (.int (11 : Int32)), .val (.ref a_ESCAPE_APOS), .unset] [(.int (11 : Int32))])
    refine own_by (fun t_ k_ => XS.iconst X23.here hx rfl (hb hby at_23) k_) ?_
    show own_Go p e below _ T23 (mkF m 24 #[.val (.int p1), .val (.int (11 : Int32)), .val (.ref a_ESCAPE_APOS), .unset] [(.int (2 : Int32)), (.int (11 : Int32))])
    refine own_icmp X23 hx 31 (hb hby at_24) (by decide) (by decide) (fun _ => ?_) (fun hc => absurd (show ¬ (11 : Int32) = (2 : Int32) from by decide) (by first | exact hc | exact not_not_intro hc))
    show own_Go p e below _ T23 (mkF m 31 #[.val (.int p1), .val (.int (11 : Int32)), .val (.ref a_ESCAPE_APOS), .unset] [])
    refine own_by (fun t_ k_ => XS.iconst X23.here hx rfl (hb hby at_31) k_) ?_
    show own_Go p e below _ T23 (mkF m 32 #[.val (.int p1), .val (.int (11 : Int32)), .val (.ref a_ESCAPE_APOS), .unset] [(.int (0 : Int32))])
    refine own_by (fun t_ k_ => XS.istoreN X23.here hx rfl (hb hby at_32) rfl (l' := #[.val (.int p1), .val (.int (11 : Int32)), .val (.ref a_ESCAPE_APOS), .val (.int (0 : Int32))]) rfl k_) ?_
    show own_Go p e below _ T23 (mkF m 33 #[.val (.int p1), .val (.int (11 : Int32)), .val (.ref a_ESCAPE_APOS), .val (.int (0 : Int32))] [])
    refine own_by (fun t_ k_ => XS.aloadN X23.here hx rfl (hb hby at_33) rfl rfl k_) ?_
    show own_Go p e below _ T23 (mkF m 34 #[.val (.int p1), .val (.int (11 : Int32)), .val (.ref a_ESCAPE_APOS), .val (.int (0 : Int32))] [(.ref a_ESCAPE_APOS)])
    refine own_callV (W := 0) X23 hx hZ (y := (⟨"com/example/quelex/quelex/Lexeme$Kind", "startsAsName", "()Z"⟩ : MethodName)) (z := (⟨"com/example/quelex/quelex/Lexeme$Kind", "startsAsName", "()Z"⟩ : MethodName)) hown (hw _ (List.mem_of_getElem? (i := 8) rfl)) (hw _ (List.mem_of_getElem? (i := 9) rfl)) (notFace_of_selects (args := #[]) (mvT hZ (hw _ (List.mem_of_getElem? (i := 11) rfl)))) (hw _ (List.mem_of_getElem? (i := 11) rfl)) (hw _ (List.mem_of_getElem? (i := 10) rfl)) (hw _ (List.mem_of_getElem? (i := 6) rfl)) (hw _ (List.mem_of_getElem? (i := 12) rfl)) (by decide) (by rw [hml]; rfl) (argsL := []) pd_1 rfl (a := a_ESCAPE_APOS) e23 E_ESCAPE_APOS (rm2 l Z a0 hw [] a_ESCAPE_APOS a_NAME a_URI_QUALIFIED_NAME a_BRACED_URI_LITERAL h0 n0 Z0 S_NAME S_URI_QUALIFIED_NAME S_BRACED_URI_LITERAL) (by decide) (by decide) (Nat.le_of_eq rfl) (by decide) (by decide) (rest := []) rfl (hb hby at_34) ?_
    intro v24 T24 L24 X24 hQ24
    obtain ⟨rfl, N24q, e24⟩ := hQ24
    have N24 := Fr.app N23 N24q
    show own_Go p e below _ T24 (mkF m 37 #[.val (.int p1), .val (.int (11 : Int32)), .val (.ref a_ESCAPE_APOS), .val (.int (0 : Int32))] [(.int (own_sn a_ESCAPE_APOS a_NAME a_URI_QUALIFIED_NAME a_BRACED_URI_LITERAL))])
    refine own_by (fun t_ k_ => XS.iloadN X24.here hx rfl (hb hby at_37) rfl k_) ?_
    show own_Go p e below _ T24 (mkF m 38 #[.val (.int p1), .val (.int (11 : Int32)), .val (.ref a_ESCAPE_APOS), .val (.int (0 : Int32))] [(.int (0 : Int32)), (.int (own_sn a_ESCAPE_APOS a_NAME a_URI_QUALIFIED_NAME a_BRACED_URI_LITERAL))])
    refine own_icmp X24 hx 45 (hb hby at_38) (by decide) (by decide) (fun hc => absurd (show (own_sn a_ESCAPE_APOS a_NAME a_URI_QUALIFIED_NAME a_BRACED_URI_LITERAL) = (0 : Int32) from by simp [own_sn, Fld.ne F_ordinal_ESCAPE_APOS F_ordinal_NAME (by decide), Fld.ne F_ordinal_ESCAPE_APOS F_ordinal_URI_QUALIFIED_NAME (by decide), Fld.ne F_ordinal_ESCAPE_APOS F_ordinal_BRACED_URI_LITERAL (by decide)]) (by first | exact hc | exact not_not_intro hc)) (fun _ => ?_)
    show own_Go p e below _ T24 (mkF m 41 #[.val (.int p1), .val (.int (11 : Int32)), .val (.ref a_ESCAPE_APOS), .val (.int (0 : Int32))] [])
    refine own_by (fun t_ k_ => XS.iconst X24.here hx rfl (hb hby at_41) k_) ?_
    show own_Go p e below _ T24 (mkF m 42 #[.val (.int p1), .val (.int (11 : Int32)), .val (.ref a_ESCAPE_APOS), .val (.int (0 : Int32))] [(.int (1 : Int32))])
    refine own_by (fun t_ k_ => XS.goto X24.here hx rfl (pc0 := 42) (pc' := 46) rfl (hb hby at_42) (by decide) (by decide) k_) ?_
    show own_Go p e below _ T24 (mkF m 46 #[.val (.int p1), .val (.int (11 : Int32)), .val (.ref a_ESCAPE_APOS), .val (.int (0 : Int32))] [(.int (1 : Int32))])
    refine own_retZ X24 hx hlk Bd.returns (by decide) (hb hby at_46) e24 (by decide) (by decide) ?_
    exact ⟨rfl, N24⟩
  · show own_Go p e below _ s₁ (mkF m 8 #[.val (.int p1), .val (.int (12 : Int32)), .unset, .unset] [])
    refine own_by (fun t_ k_ => XS.iloadN X0.here hx rfl (hb hby at_8) rfl k_) ?_
    show own_Go p e below _ s₁ (mkF m 9 #[.val (.int p1), .val (.int (12 : Int32)), .unset, .unset] [(.int (12 : Int32))])
    refine own_callS (W := 0) X0 hx hZ (y := (⟨"com/example/quelex/quelex/KindStartsAsNamePinLaw", "kindAt", "(I)Lcom/example/quelex/quelex/Lexeme$Kind;"⟩ : MethodName)) hown (hw _ (List.mem_of_getElem? (i := 1) rfl)) (hw _ (List.mem_of_getElem? (i := 2) rfl)) (hw _ (List.mem_of_getElem? (i := 3) rfl)) (hw _ (List.mem_of_getElem? (i := 4) rfl)) (by decide) (by rw [hml]; rfl) (argsL := [(.int (12 : Int32))]) pd_0 rfl (rm1 l Z a0 hw [] (12 : Int32) a_ELEMENT_CONTENT_CHAR a_NAME a_URI_QUALIFIED_NAME a_BRACED_URI_LITERAL a_INTEGER a_DECIMAL a_DOUBLE a_STRING a_SYMBOL a_PREDEFINED_ENTITY_REF a_CHAR_REF a_ESCAPE_QUOT a_ESCAPE_APOS a_ELEMENT_CONTENT_CHAR a_QUOT_ATTR_CONTENT_CHAR a_APOS_ATTR_CONTENT_CHAR a_DIR_COMMENT_CONTENTS a_DIR_PI_CONTENTS a_CDATA_SECTION_CONTENTS a_PRAGMA_CONTENTS a_STRING_CONSTRUCTOR_CHARS a_END h0 n0 Z0 S_NAME S_URI_QUALIFIED_NAME S_BRACED_URI_LITERAL S_INTEGER S_DECIMAL S_DOUBLE S_STRING S_SYMBOL S_PREDEFINED_ENTITY_REF S_CHAR_REF S_ESCAPE_QUOT S_ESCAPE_APOS S_ELEMENT_CONTENT_CHAR S_QUOT_ATTR_CONTENT_CHAR S_APOS_ATTR_CONTENT_CHAR S_DIR_COMMENT_CONTENTS S_DIR_PI_CONTENTS S_CDATA_SECTION_CONTENTS S_PRAGMA_CONTENTS S_STRING_CONSTRUCTOR_CHARS S_END (Or.inr (Or.inr (Or.inr (Or.inr (Or.inr (Or.inr (Or.inr (Or.inr (Or.inr (Or.inr (Or.inr (Or.inr (Or.inl ⟨rfl, rfl⟩)))))))))))))) (by decide) (by decide) (Nat.le_of_eq rfl) (by decide) (by decide) (rest := []) e0 rfl (hb hby at_9) ?_
    intro v25 T25 L25 X25 hQ25
    obtain ⟨rfl, N25q, e25⟩ := hQ25
    have N25 := Fr.app N0 N25q
    show own_Go p e below _ T25 (mkF m 12 #[.val (.int p1), .val (.int (12 : Int32)), .unset, .unset] [(.ref a_ELEMENT_CONTENT_CHAR)])
    refine own_by (fun t_ k_ => XS.astoreN X25.here hx rfl (hb hby at_12) rfl rfl (l' := #[.val (.int p1), .val (.int (12 : Int32)), .val (.ref a_ELEMENT_CONTENT_CHAR), .unset]) rfl k_) ?_
    show own_Go p e below _ T25 (mkF m 13 #[.val (.int p1), .val (.int (12 : Int32)), .val (.ref a_ELEMENT_CONTENT_CHAR), .unset] [])
    refine own_by (fun t_ k_ => XS.iloadN X25.here hx rfl (hb hby at_13) rfl k_) ?_
    show own_Go p e below _ T25 (mkF m 14 #[.val (.int p1), .val (.int (12 : Int32)), .val (.ref a_ELEMENT_CONTENT_CHAR), .unset] [(.int (12 : Int32))])
    refine own_if X25 hx 27 (hb hby at_14) (by decide) (by decide) (fun hc => absurd (show ¬ (12 : Int32) = (0 : Int32) from by decide) (by first | exact hc | exact not_not_intro hc)) (fun _ => ?_)
    show own_Go p e below _ T25 (mkF m 17 #[.val (.int p1), .val (.int (12 : Int32)), .val (.ref a_ELEMENT_CONTENT_CHAR), .unset] [])
    refine own_by (fun t_ k_ => XS.iloadN X25.here hx rfl (hb hby at_17) rfl k_) ?_
    show own_Go p e below _ T25 (mkF m 18 #[.val (.int p1), .val (.int (12 : Int32)), .val (.ref a_ELEMENT_CONTENT_CHAR), .unset] [(.int (12 : Int32))])
    refine own_by (fun t_ k_ => XS.iconst X25.here hx rfl (hb hby at_18) k_) ?_
    show own_Go p e below _ T25 (mkF m 19 #[.val (.int p1), .val (.int (12 : Int32)), .val (.ref a_ELEMENT_CONTENT_CHAR), .unset] [(.int (1 : Int32)), (.int (12 : Int32))])
    refine own_icmp X25 hx 27 (hb hby at_19) (by decide) (by decide) (fun hc => absurd (show ¬ (12 : Int32) = (1 : Int32) from by decide) (by first | exact hc | exact not_not_intro hc)) (fun _ => ?_)
    show own_Go p e below _ T25 (mkF m 22 #[.val (.int p1), .val (.int (12 : Int32)), .val (.ref a_ELEMENT_CONTENT_CHAR), .unset] [])
    refine own_by (fun t_ k_ => XS.iloadN X25.here hx rfl (hb hby at_22) rfl k_) ?_
    show own_Go p e below _ T25 (mkF m 23 #[.val (.int p1), .val (.int (12 : Int32)), .val (.ref a_ELEMENT_CONTENT_CHAR), .unset] [(.int (12 : Int32))])
    refine own_by (fun t_ k_ => XS.iconst X25.here hx rfl (hb hby at_23) k_) ?_
    show own_Go p e below _ T25 (mkF m 24 #[.val (.int p1), .val (.int (12 : Int32)), .val (.ref a_ELEMENT_CONTENT_CHAR), .unset] [(.int (2 : Int32)), (.int (12 : Int32))])
    refine own_icmp X25 hx 31 (hb hby at_24) (by decide) (by decide) (fun _ => ?_) (fun hc => absurd (show ¬ (12 : Int32) = (2 : Int32) from by decide) (by first | exact hc | exact not_not_intro hc))
    show own_Go p e below _ T25 (mkF m 31 #[.val (.int p1), .val (.int (12 : Int32)), .val (.ref a_ELEMENT_CONTENT_CHAR), .unset] [])
    refine own_by (fun t_ k_ => XS.iconst X25.here hx rfl (hb hby at_31) k_) ?_
    show own_Go p e below _ T25 (mkF m 32 #[.val (.int p1), .val (.int (12 : Int32)), .val (.ref a_ELEMENT_CONTENT_CHAR), .unset] [(.int (0 : Int32))])
    refine own_by (fun t_ k_ => XS.istoreN X25.here hx rfl (hb hby at_32) rfl (l' := #[.val (.int p1), .val (.int (12 : Int32)), .val (.ref a_ELEMENT_CONTENT_CHAR), .val (.int (0 : Int32))]) rfl k_) ?_
    show own_Go p e below _ T25 (mkF m 33 #[.val (.int p1), .val (.int (12 : Int32)), .val (.ref a_ELEMENT_CONTENT_CHAR), .val (.int (0 : Int32))] [])
    refine own_by (fun t_ k_ => XS.aloadN X25.here hx rfl (hb hby at_33) rfl rfl k_) ?_
    show own_Go p e below _ T25 (mkF m 34 #[.val (.int p1), .val (.int (12 : Int32)), .val (.ref a_ELEMENT_CONTENT_CHAR), .val (.int (0 : Int32))] [(.ref a_ELEMENT_CONTENT_CHAR)])
    refine own_callV (W := 0) X25 hx hZ (y := (⟨"com/example/quelex/quelex/Lexeme$Kind", "startsAsName", "()Z"⟩ : MethodName)) (z := (⟨"com/example/quelex/quelex/Lexeme$Kind", "startsAsName", "()Z"⟩ : MethodName)) hown (hw _ (List.mem_of_getElem? (i := 8) rfl)) (hw _ (List.mem_of_getElem? (i := 9) rfl)) (notFace_of_selects (args := #[]) (mvT hZ (hw _ (List.mem_of_getElem? (i := 11) rfl)))) (hw _ (List.mem_of_getElem? (i := 11) rfl)) (hw _ (List.mem_of_getElem? (i := 10) rfl)) (hw _ (List.mem_of_getElem? (i := 6) rfl)) (hw _ (List.mem_of_getElem? (i := 12) rfl)) (by decide) (by rw [hml]; rfl) (argsL := []) pd_1 rfl (a := a_ELEMENT_CONTENT_CHAR) e25 E_ELEMENT_CONTENT_CHAR (rm2 l Z a0 hw [] a_ELEMENT_CONTENT_CHAR a_NAME a_URI_QUALIFIED_NAME a_BRACED_URI_LITERAL h0 n0 Z0 S_NAME S_URI_QUALIFIED_NAME S_BRACED_URI_LITERAL) (by decide) (by decide) (Nat.le_of_eq rfl) (by decide) (by decide) (rest := []) rfl (hb hby at_34) ?_
    intro v26 T26 L26 X26 hQ26
    obtain ⟨rfl, N26q, e26⟩ := hQ26
    have N26 := Fr.app N25 N26q
    show own_Go p e below _ T26 (mkF m 37 #[.val (.int p1), .val (.int (12 : Int32)), .val (.ref a_ELEMENT_CONTENT_CHAR), .val (.int (0 : Int32))] [(.int (own_sn a_ELEMENT_CONTENT_CHAR a_NAME a_URI_QUALIFIED_NAME a_BRACED_URI_LITERAL))])
    refine own_by (fun t_ k_ => XS.iloadN X26.here hx rfl (hb hby at_37) rfl k_) ?_
    show own_Go p e below _ T26 (mkF m 38 #[.val (.int p1), .val (.int (12 : Int32)), .val (.ref a_ELEMENT_CONTENT_CHAR), .val (.int (0 : Int32))] [(.int (0 : Int32)), (.int (own_sn a_ELEMENT_CONTENT_CHAR a_NAME a_URI_QUALIFIED_NAME a_BRACED_URI_LITERAL))])
    refine own_icmp X26 hx 45 (hb hby at_38) (by decide) (by decide) (fun hc => absurd (show (own_sn a_ELEMENT_CONTENT_CHAR a_NAME a_URI_QUALIFIED_NAME a_BRACED_URI_LITERAL) = (0 : Int32) from by simp [own_sn, Fld.ne F_ordinal_ELEMENT_CONTENT_CHAR F_ordinal_NAME (by decide), Fld.ne F_ordinal_ELEMENT_CONTENT_CHAR F_ordinal_URI_QUALIFIED_NAME (by decide), Fld.ne F_ordinal_ELEMENT_CONTENT_CHAR F_ordinal_BRACED_URI_LITERAL (by decide)]) (by first | exact hc | exact not_not_intro hc)) (fun _ => ?_)
    show own_Go p e below _ T26 (mkF m 41 #[.val (.int p1), .val (.int (12 : Int32)), .val (.ref a_ELEMENT_CONTENT_CHAR), .val (.int (0 : Int32))] [])
    refine own_by (fun t_ k_ => XS.iconst X26.here hx rfl (hb hby at_41) k_) ?_
    show own_Go p e below _ T26 (mkF m 42 #[.val (.int p1), .val (.int (12 : Int32)), .val (.ref a_ELEMENT_CONTENT_CHAR), .val (.int (0 : Int32))] [(.int (1 : Int32))])
    refine own_by (fun t_ k_ => XS.goto X26.here hx rfl (pc0 := 42) (pc' := 46) rfl (hb hby at_42) (by decide) (by decide) k_) ?_
    show own_Go p e below _ T26 (mkF m 46 #[.val (.int p1), .val (.int (12 : Int32)), .val (.ref a_ELEMENT_CONTENT_CHAR), .val (.int (0 : Int32))] [(.int (1 : Int32))])
    refine own_retZ X26 hx hlk Bd.returns (by decide) (hb hby at_46) e26 (by decide) (by decide) ?_
    exact ⟨rfl, N26⟩
  · show own_Go p e below _ s₁ (mkF m 8 #[.val (.int p1), .val (.int (13 : Int32)), .unset, .unset] [])
    refine own_by (fun t_ k_ => XS.iloadN X0.here hx rfl (hb hby at_8) rfl k_) ?_
    show own_Go p e below _ s₁ (mkF m 9 #[.val (.int p1), .val (.int (13 : Int32)), .unset, .unset] [(.int (13 : Int32))])
    refine own_callS (W := 0) X0 hx hZ (y := (⟨"com/example/quelex/quelex/KindStartsAsNamePinLaw", "kindAt", "(I)Lcom/example/quelex/quelex/Lexeme$Kind;"⟩ : MethodName)) hown (hw _ (List.mem_of_getElem? (i := 1) rfl)) (hw _ (List.mem_of_getElem? (i := 2) rfl)) (hw _ (List.mem_of_getElem? (i := 3) rfl)) (hw _ (List.mem_of_getElem? (i := 4) rfl)) (by decide) (by rw [hml]; rfl) (argsL := [(.int (13 : Int32))]) pd_0 rfl (rm1 l Z a0 hw [] (13 : Int32) a_QUOT_ATTR_CONTENT_CHAR a_NAME a_URI_QUALIFIED_NAME a_BRACED_URI_LITERAL a_INTEGER a_DECIMAL a_DOUBLE a_STRING a_SYMBOL a_PREDEFINED_ENTITY_REF a_CHAR_REF a_ESCAPE_QUOT a_ESCAPE_APOS a_ELEMENT_CONTENT_CHAR a_QUOT_ATTR_CONTENT_CHAR a_APOS_ATTR_CONTENT_CHAR a_DIR_COMMENT_CONTENTS a_DIR_PI_CONTENTS a_CDATA_SECTION_CONTENTS a_PRAGMA_CONTENTS a_STRING_CONSTRUCTOR_CHARS a_END h0 n0 Z0 S_NAME S_URI_QUALIFIED_NAME S_BRACED_URI_LITERAL S_INTEGER S_DECIMAL S_DOUBLE S_STRING S_SYMBOL S_PREDEFINED_ENTITY_REF S_CHAR_REF S_ESCAPE_QUOT S_ESCAPE_APOS S_ELEMENT_CONTENT_CHAR S_QUOT_ATTR_CONTENT_CHAR S_APOS_ATTR_CONTENT_CHAR S_DIR_COMMENT_CONTENTS S_DIR_PI_CONTENTS S_CDATA_SECTION_CONTENTS S_PRAGMA_CONTENTS S_STRING_CONSTRUCTOR_CHARS S_END (Or.inr (Or.inr (Or.inr (Or.inr (Or.inr (Or.inr (Or.inr (Or.inr (Or.inr (Or.inr (Or.inr (Or.inr (Or.inr (Or.inl ⟨rfl, rfl⟩))))))))))))))) (by decide) (by decide) (Nat.le_of_eq rfl) (by decide) (by decide) (rest := []) e0 rfl (hb hby at_9) ?_
    intro v27 T27 L27 X27 hQ27
    obtain ⟨rfl, N27q, e27⟩ := hQ27
    have N27 := Fr.app N0 N27q
    show own_Go p e below _ T27 (mkF m 12 #[.val (.int p1), .val (.int (13 : Int32)), .unset, .unset] [(.ref a_QUOT_ATTR_CONTENT_CHAR)])
    refine own_by (fun t_ k_ => XS.astoreN X27.here hx rfl (hb hby at_12) rfl rfl (l' := #[.val (.int p1), .val (.int (13 : Int32)), .val (.ref a_QUOT_ATTR_CONTENT_CHAR), .unset]) rfl k_) ?_
    show own_Go p e below _ T27 (mkF m 13 #[.val (.int p1), .val (.int (13 : Int32)), .val (.ref a_QUOT_ATTR_CONTENT_CHAR), .unset] [])
    refine own_by (fun t_ k_ => XS.iloadN X27.here hx rfl (hb hby at_13) rfl k_) ?_
    show own_Go p e below _ T27 (mkF m 14 #[.val (.int p1), .val (.int (13 : Int32)), .val (.ref a_QUOT_ATTR_CONTENT_CHAR), .unset] [(.int (13 : Int32))])
    refine own_if X27 hx 27 (hb hby at_14) (by decide) (by decide) (fun hc => absurd (show ¬ (13 : Int32) = (0 : Int32) from by decide) (by first | exact hc | exact not_not_intro hc)) (fun _ => ?_)
    show own_Go p e below _ T27 (mkF m 17 #[.val (.int p1), .val (.int (13 : Int32)), .val (.ref a_QUOT_ATTR_CONTENT_CHAR), .unset] [])
    refine own_by (fun t_ k_ => XS.iloadN X27.here hx rfl (hb hby at_17) rfl k_) ?_
    show own_Go p e below _ T27 (mkF m 18 #[.val (.int p1), .val (.int (13 : Int32)), .val (.ref a_QUOT_ATTR_CONTENT_CHAR), .unset] [(.int (13 : Int32))])
    refine own_by (fun t_ k_ => XS.iconst X27.here hx rfl (hb hby at_18) k_) ?_
    show own_Go p e below _ T27 (mkF m 19 #[.val (.int p1), .val (.int (13 : Int32)), .val (.ref a_QUOT_ATTR_CONTENT_CHAR), .unset] [(.int (1 : Int32)), (.int (13 : Int32))])
    refine own_icmp X27 hx 27 (hb hby at_19) (by decide) (by decide) (fun hc => absurd (show ¬ (13 : Int32) = (1 : Int32) from by decide) (by first | exact hc | exact not_not_intro hc)) (fun _ => ?_)
    show own_Go p e below _ T27 (mkF m 22 #[.val (.int p1), .val (.int (13 : Int32)), .val (.ref a_QUOT_ATTR_CONTENT_CHAR), .unset] [])
    refine own_by (fun t_ k_ => XS.iloadN X27.here hx rfl (hb hby at_22) rfl k_) ?_
    show own_Go p e below _ T27 (mkF m 23 #[.val (.int p1), .val (.int (13 : Int32)), .val (.ref a_QUOT_ATTR_CONTENT_CHAR), .unset] [(.int (13 : Int32))])
    refine own_by (fun t_ k_ => XS.iconst X27.here hx rfl (hb hby at_23) k_) ?_
    show own_Go p e below _ T27 (mkF m 24 #[.val (.int p1), .val (.int (13 : Int32)), .val (.ref a_QUOT_ATTR_CONTENT_CHAR), .unset] [(.int (2 : Int32)), (.int (13 : Int32))])
    refine own_icmp X27 hx 31 (hb hby at_24) (by decide) (by decide) (fun _ => ?_) (fun hc => absurd (show ¬ (13 : Int32) = (2 : Int32) from by decide) (by first | exact hc | exact not_not_intro hc))
    show own_Go p e below _ T27 (mkF m 31 #[.val (.int p1), .val (.int (13 : Int32)), .val (.ref a_QUOT_ATTR_CONTENT_CHAR), .unset] [])
    refine own_by (fun t_ k_ => XS.iconst X27.here hx rfl (hb hby at_31) k_) ?_
    show own_Go p e below _ T27 (mkF m 32 #[.val (.int p1), .val (.int (13 : Int32)), .val (.ref a_QUOT_ATTR_CONTENT_CHAR), .unset] [(.int (0 : Int32))])
    refine own_by (fun t_ k_ => XS.istoreN X27.here hx rfl (hb hby at_32) rfl (l' := #[.val (.int p1), .val (.int (13 : Int32)), .val (.ref a_QUOT_ATTR_CONTENT_CHAR), .val (.int (0 : Int32))]) rfl k_) ?_
    show own_Go p e below _ T27 (mkF m 33 #[.val (.int p1), .val (.int (13 : Int32)), .val (.ref a_QUOT_ATTR_CONTENT_CHAR), .val (.int (0 : Int32))] [])
    refine own_by (fun t_ k_ => XS.aloadN X27.here hx rfl (hb hby at_33) rfl rfl k_) ?_
    show own_Go p e below _ T27 (mkF m 34 #[.val (.int p1), .val (.int (13 : Int32)), .val (.ref a_QUOT_ATTR_CONTENT_CHAR), .val (.int (0 : Int32))] [(.ref a_QUOT_ATTR_CONTENT_CHAR)])
    refine own_callV (W := 0) X27 hx hZ (y := (⟨"com/example/quelex/quelex/Lexeme$Kind", "startsAsName", "()Z"⟩ : MethodName)) (z := (⟨"com/example/quelex/quelex/Lexeme$Kind", "startsAsName", "()Z"⟩ : MethodName)) hown (hw _ (List.mem_of_getElem? (i := 8) rfl)) (hw _ (List.mem_of_getElem? (i := 9) rfl)) (notFace_of_selects (args := #[]) (mvT hZ (hw _ (List.mem_of_getElem? (i := 11) rfl)))) (hw _ (List.mem_of_getElem? (i := 11) rfl)) (hw _ (List.mem_of_getElem? (i := 10) rfl)) (hw _ (List.mem_of_getElem? (i := 6) rfl)) (hw _ (List.mem_of_getElem? (i := 12) rfl)) (by decide) (by rw [hml]; rfl) (argsL := []) pd_1 rfl (a := a_QUOT_ATTR_CONTENT_CHAR) e27 E_QUOT_ATTR_CONTENT_CHAR (rm2 l Z a0 hw [] a_QUOT_ATTR_CONTENT_CHAR a_NAME a_URI_QUALIFIED_NAME a_BRACED_URI_LITERAL h0 n0 Z0 S_NAME S_URI_QUALIFIED_NAME S_BRACED_URI_LITERAL) (by decide) (by decide) (Nat.le_of_eq rfl) (by decide) (by decide) (rest := []) rfl (hb hby at_34) ?_
    intro v28 T28 L28 X28 hQ28
    obtain ⟨rfl, N28q, e28⟩ := hQ28
    have N28 := Fr.app N27 N28q
    show own_Go p e below _ T28 (mkF m 37 #[.val (.int p1), .val (.int (13 : Int32)), .val (.ref a_QUOT_ATTR_CONTENT_CHAR), .val (.int (0 : Int32))] [(.int (own_sn a_QUOT_ATTR_CONTENT_CHAR a_NAME a_URI_QUALIFIED_NAME a_BRACED_URI_LITERAL))])
    refine own_by (fun t_ k_ => XS.iloadN X28.here hx rfl (hb hby at_37) rfl k_) ?_
    show own_Go p e below _ T28 (mkF m 38 #[.val (.int p1), .val (.int (13 : Int32)), .val (.ref a_QUOT_ATTR_CONTENT_CHAR), .val (.int (0 : Int32))] [(.int (0 : Int32)), (.int (own_sn a_QUOT_ATTR_CONTENT_CHAR a_NAME a_URI_QUALIFIED_NAME a_BRACED_URI_LITERAL))])
    refine own_icmp X28 hx 45 (hb hby at_38) (by decide) (by decide) (fun hc => absurd (show (own_sn a_QUOT_ATTR_CONTENT_CHAR a_NAME a_URI_QUALIFIED_NAME a_BRACED_URI_LITERAL) = (0 : Int32) from by simp [own_sn, Fld.ne F_ordinal_QUOT_ATTR_CONTENT_CHAR F_ordinal_NAME (by decide), Fld.ne F_ordinal_QUOT_ATTR_CONTENT_CHAR F_ordinal_URI_QUALIFIED_NAME (by decide), Fld.ne F_ordinal_QUOT_ATTR_CONTENT_CHAR F_ordinal_BRACED_URI_LITERAL (by decide)]) (by first | exact hc | exact not_not_intro hc)) (fun _ => ?_)
    show own_Go p e below _ T28 (mkF m 41 #[.val (.int p1), .val (.int (13 : Int32)), .val (.ref a_QUOT_ATTR_CONTENT_CHAR), .val (.int (0 : Int32))] [])
    refine own_by (fun t_ k_ => XS.iconst X28.here hx rfl (hb hby at_41) k_) ?_
    show own_Go p e below _ T28 (mkF m 42 #[.val (.int p1), .val (.int (13 : Int32)), .val (.ref a_QUOT_ATTR_CONTENT_CHAR), .val (.int (0 : Int32))] [(.int (1 : Int32))])
    refine own_by (fun t_ k_ => XS.goto X28.here hx rfl (pc0 := 42) (pc' := 46) rfl (hb hby at_42) (by decide) (by decide) k_) ?_
    show own_Go p e below _ T28 (mkF m 46 #[.val (.int p1), .val (.int (13 : Int32)), .val (.ref a_QUOT_ATTR_CONTENT_CHAR), .val (.int (0 : Int32))] [(.int (1 : Int32))])
    refine own_retZ X28 hx hlk Bd.returns (by decide) (hb hby at_46) e28 (by decide) (by decide) ?_
    exact ⟨rfl, N28⟩
  · show own_Go p e below _ s₁ (mkF m 8 #[.val (.int p1), .val (.int (14 : Int32)), .unset, .unset] [])
    refine own_by (fun t_ k_ => XS.iloadN X0.here hx rfl (hb hby at_8) rfl k_) ?_
    show own_Go p e below _ s₁ (mkF m 9 #[.val (.int p1), .val (.int (14 : Int32)), .unset, .unset] [(.int (14 : Int32))])
    refine own_callS (W := 0) X0 hx hZ (y := (⟨"com/example/quelex/quelex/KindStartsAsNamePinLaw", "kindAt", "(I)Lcom/example/quelex/quelex/Lexeme$Kind;"⟩ : MethodName)) hown (hw _ (List.mem_of_getElem? (i := 1) rfl)) (hw _ (List.mem_of_getElem? (i := 2) rfl)) (hw _ (List.mem_of_getElem? (i := 3) rfl)) (hw _ (List.mem_of_getElem? (i := 4) rfl)) (by decide) (by rw [hml]; rfl) (argsL := [(.int (14 : Int32))]) pd_0 rfl (rm1 l Z a0 hw [] (14 : Int32) a_APOS_ATTR_CONTENT_CHAR a_NAME a_URI_QUALIFIED_NAME a_BRACED_URI_LITERAL a_INTEGER a_DECIMAL a_DOUBLE a_STRING a_SYMBOL a_PREDEFINED_ENTITY_REF a_CHAR_REF a_ESCAPE_QUOT a_ESCAPE_APOS a_ELEMENT_CONTENT_CHAR a_QUOT_ATTR_CONTENT_CHAR a_APOS_ATTR_CONTENT_CHAR a_DIR_COMMENT_CONTENTS a_DIR_PI_CONTENTS a_CDATA_SECTION_CONTENTS a_PRAGMA_CONTENTS a_STRING_CONSTRUCTOR_CHARS a_END h0 n0 Z0 S_NAME S_URI_QUALIFIED_NAME S_BRACED_URI_LITERAL S_INTEGER S_DECIMAL S_DOUBLE S_STRING S_SYMBOL S_PREDEFINED_ENTITY_REF S_CHAR_REF S_ESCAPE_QUOT S_ESCAPE_APOS S_ELEMENT_CONTENT_CHAR S_QUOT_ATTR_CONTENT_CHAR S_APOS_ATTR_CONTENT_CHAR S_DIR_COMMENT_CONTENTS S_DIR_PI_CONTENTS S_CDATA_SECTION_CONTENTS S_PRAGMA_CONTENTS S_STRING_CONSTRUCTOR_CHARS S_END (Or.inr (Or.inr (Or.inr (Or.inr (Or.inr (Or.inr (Or.inr (Or.inr (Or.inr (Or.inr (Or.inr (Or.inr (Or.inr (Or.inr (Or.inl ⟨rfl, rfl⟩)))))))))))))))) (by decide) (by decide) (Nat.le_of_eq rfl) (by decide) (by decide) (rest := []) e0 rfl (hb hby at_9) ?_
    intro v29 T29 L29 X29 hQ29
    obtain ⟨rfl, N29q, e29⟩ := hQ29
    have N29 := Fr.app N0 N29q
    show own_Go p e below _ T29 (mkF m 12 #[.val (.int p1), .val (.int (14 : Int32)), .unset, .unset] [(.ref a_APOS_ATTR_CONTENT_CHAR)])
    refine own_by (fun t_ k_ => XS.astoreN X29.here hx rfl (hb hby at_12) rfl rfl (l' := #[.val (.int p1), .val (.int (14 : Int32)), .val (.ref a_APOS_ATTR_CONTENT_CHAR), .unset]) rfl k_) ?_
    show own_Go p e below _ T29 (mkF m 13 #[.val (.int p1), .val (.int (14 : Int32)), .val (.ref a_APOS_ATTR_CONTENT_CHAR), .unset] [])
    refine own_by (fun t_ k_ => XS.iloadN X29.here hx rfl (hb hby at_13) rfl k_) ?_
    show own_Go p e below _ T29 (mkF m 14 #[.val (.int p1), .val (.int (14 : Int32)), .val (.ref a_APOS_ATTR_CONTENT_CHAR), .unset] [(.int (14 : Int32))])
    refine own_if X29 hx 27 (hb hby at_14) (by decide) (by decide) (fun hc => absurd (show ¬ (14 : Int32) = (0 : Int32) from by decide) (by first | exact hc | exact not_not_intro hc)) (fun _ => ?_)
    show own_Go p e below _ T29 (mkF m 17 #[.val (.int p1), .val (.int (14 : Int32)), .val (.ref a_APOS_ATTR_CONTENT_CHAR), .unset] [])
    refine own_by (fun t_ k_ => XS.iloadN X29.here hx rfl (hb hby at_17) rfl k_) ?_
    show own_Go p e below _ T29 (mkF m 18 #[.val (.int p1), .val (.int (14 : Int32)), .val (.ref a_APOS_ATTR_CONTENT_CHAR), .unset] [(.int (14 : Int32))])
    refine own_by (fun t_ k_ => XS.iconst X29.here hx rfl (hb hby at_18) k_) ?_
    show own_Go p e below _ T29 (mkF m 19 #[.val (.int p1), .val (.int (14 : Int32)), .val (.ref a_APOS_ATTR_CONTENT_CHAR), .unset] [(.int (1 : Int32)), (.int (14 : Int32))])
    refine own_icmp X29 hx 27 (hb hby at_19) (by decide) (by decide) (fun hc => absurd (show ¬ (14 : Int32) = (1 : Int32) from by decide) (by first | exact hc | exact not_not_intro hc)) (fun _ => ?_)
    show own_Go p e below _ T29 (mkF m 22 #[.val (.int p1), .val (.int (14 : Int32)), .val (.ref a_APOS_ATTR_CONTENT_CHAR), .unset] [])
    refine own_by (fun t_ k_ => XS.iloadN X29.here hx rfl (hb hby at_22) rfl k_) ?_
    show own_Go p e below _ T29 (mkF m 23 #[.val (.int p1), .val (.int (14 : Int32)), .val (.ref a_APOS_ATTR_CONTENT_CHAR), .unset] [(.int (14 : Int32))])
    refine own_by (fun t_ k_ => XS.iconst X29.here hx rfl (hb hby at_23) k_) ?_
    show own_Go p e below _ T29 (mkF m 24 #[.val (.int p1), .val (.int (14 : Int32)), .val (.ref a_APOS_ATTR_CONTENT_CHAR), .unset] [(.int (2 : Int32)), (.int (14 : Int32))])
    refine own_icmp X29 hx 31 (hb hby at_24) (by decide) (by decide) (fun _ => ?_) (fun hc => absurd (show ¬ (14 : Int32) = (2 : Int32) from by decide) (by first | exact hc | exact not_not_intro hc))
    show own_Go p e below _ T29 (mkF m 31 #[.val (.int p1), .val (.int (14 : Int32)), .val (.ref a_APOS_ATTR_CONTENT_CHAR), .unset] [])
    refine own_by (fun t_ k_ => XS.iconst X29.here hx rfl (hb hby at_31) k_) ?_
    show own_Go p e below _ T29 (mkF m 32 #[.val (.int p1), .val (.int (14 : Int32)), .val (.ref a_APOS_ATTR_CONTENT_CHAR), .unset] [(.int (0 : Int32))])
    refine own_by (fun t_ k_ => XS.istoreN X29.here hx rfl (hb hby at_32) rfl (l' := #[.val (.int p1), .val (.int (14 : Int32)), .val (.ref a_APOS_ATTR_CONTENT_CHAR), .val (.int (0 : Int32))]) rfl k_) ?_
    show own_Go p e below _ T29 (mkF m 33 #[.val (.int p1), .val (.int (14 : Int32)), .val (.ref a_APOS_ATTR_CONTENT_CHAR), .val (.int (0 : Int32))] [])
    refine own_by (fun t_ k_ => XS.aloadN X29.here hx rfl (hb hby at_33) rfl rfl k_) ?_
    show own_Go p e below _ T29 (mkF m 34 #[.val (.int p1), .val (.int (14 : Int32)), .val (.ref a_APOS_ATTR_CONTENT_CHAR), .val (.int (0 : Int32))] [(.ref a_APOS_ATTR_CONTENT_CHAR)])
    refine own_callV (W := 0) X29 hx hZ (y := (⟨"com/example/quelex/quelex/Lexeme$Kind", "startsAsName", "()Z"⟩ : MethodName)) (z := (⟨"com/example/quelex/quelex/Lexeme$Kind", "startsAsName", "()Z"⟩ : MethodName)) hown (hw _ (List.mem_of_getElem? (i := 8) rfl)) (hw _ (List.mem_of_getElem? (i := 9) rfl)) (notFace_of_selects (args := #[]) (mvT hZ (hw _ (List.mem_of_getElem? (i := 11) rfl)))) (hw _ (List.mem_of_getElem? (i := 11) rfl)) (hw _ (List.mem_of_getElem? (i := 10) rfl)) (hw _ (List.mem_of_getElem? (i := 6) rfl)) (hw _ (List.mem_of_getElem? (i := 12) rfl)) (by decide) (by rw [hml]; rfl) (argsL := []) pd_1 rfl (a := a_APOS_ATTR_CONTENT_CHAR) e29 E_APOS_ATTR_CONTENT_CHAR (rm2 l Z a0 hw [] a_APOS_ATTR_CONTENT_CHAR a_NAME a_URI_QUALIFIED_NAME a_BRACED_URI_LITERAL h0 n0 Z0 S_NAME S_URI_QUALIFIED_NAME S_BRACED_URI_LITERAL) (by decide) (by decide) (Nat.le_of_eq rfl) (by decide) (by decide) (rest := []) rfl (hb hby at_34) ?_
    intro v30 T30 L30 X30 hQ30
    obtain ⟨rfl, N30q, e30⟩ := hQ30
    have N30 := Fr.app N29 N30q
    show own_Go p e below _ T30 (mkF m 37 #[.val (.int p1), .val (.int (14 : Int32)), .val (.ref a_APOS_ATTR_CONTENT_CHAR), .val (.int (0 : Int32))] [(.int (own_sn a_APOS_ATTR_CONTENT_CHAR a_NAME a_URI_QUALIFIED_NAME a_BRACED_URI_LITERAL))])
    refine own_by (fun t_ k_ => XS.iloadN X30.here hx rfl (hb hby at_37) rfl k_) ?_
    show own_Go p e below _ T30 (mkF m 38 #[.val (.int p1), .val (.int (14 : Int32)), .val (.ref a_APOS_ATTR_CONTENT_CHAR), .val (.int (0 : Int32))] [(.int (0 : Int32)), (.int (own_sn a_APOS_ATTR_CONTENT_CHAR a_NAME a_URI_QUALIFIED_NAME a_BRACED_URI_LITERAL))])
    refine own_icmp X30 hx 45 (hb hby at_38) (by decide) (by decide) (fun hc => absurd (show (own_sn a_APOS_ATTR_CONTENT_CHAR a_NAME a_URI_QUALIFIED_NAME a_BRACED_URI_LITERAL) = (0 : Int32) from by simp [own_sn, Fld.ne F_ordinal_APOS_ATTR_CONTENT_CHAR F_ordinal_NAME (by decide), Fld.ne F_ordinal_APOS_ATTR_CONTENT_CHAR F_ordinal_URI_QUALIFIED_NAME (by decide), Fld.ne F_ordinal_APOS_ATTR_CONTENT_CHAR F_ordinal_BRACED_URI_LITERAL (by decide)]) (by first | exact hc | exact not_not_intro hc)) (fun _ => ?_)
    show own_Go p e below _ T30 (mkF m 41 #[.val (.int p1), .val (.int (14 : Int32)), .val (.ref a_APOS_ATTR_CONTENT_CHAR), .val (.int (0 : Int32))] [])
    refine own_by (fun t_ k_ => XS.iconst X30.here hx rfl (hb hby at_41) k_) ?_
    show own_Go p e below _ T30 (mkF m 42 #[.val (.int p1), .val (.int (14 : Int32)), .val (.ref a_APOS_ATTR_CONTENT_CHAR), .val (.int (0 : Int32))] [(.int (1 : Int32))])
    refine own_by (fun t_ k_ => XS.goto X30.here hx rfl (pc0 := 42) (pc' := 46) rfl (hb hby at_42) (by decide) (by decide) k_) ?_
    show own_Go p e below _ T30 (mkF m 46 #[.val (.int p1), .val (.int (14 : Int32)), .val (.ref a_APOS_ATTR_CONTENT_CHAR), .val (.int (0 : Int32))] [(.int (1 : Int32))])
    refine own_retZ X30 hx hlk Bd.returns (by decide) (hb hby at_46) e30 (by decide) (by decide) ?_
    exact ⟨rfl, N30⟩
  · show own_Go p e below _ s₁ (mkF m 8 #[.val (.int p1), .val (.int (15 : Int32)), .unset, .unset] [])
    refine own_by (fun t_ k_ => XS.iloadN X0.here hx rfl (hb hby at_8) rfl k_) ?_
    show own_Go p e below _ s₁ (mkF m 9 #[.val (.int p1), .val (.int (15 : Int32)), .unset, .unset] [(.int (15 : Int32))])
    refine own_callS (W := 0) X0 hx hZ (y := (⟨"com/example/quelex/quelex/KindStartsAsNamePinLaw", "kindAt", "(I)Lcom/example/quelex/quelex/Lexeme$Kind;"⟩ : MethodName)) hown (hw _ (List.mem_of_getElem? (i := 1) rfl)) (hw _ (List.mem_of_getElem? (i := 2) rfl)) (hw _ (List.mem_of_getElem? (i := 3) rfl)) (hw _ (List.mem_of_getElem? (i := 4) rfl)) (by decide) (by rw [hml]; rfl) (argsL := [(.int (15 : Int32))]) pd_0 rfl (rm1 l Z a0 hw [] (15 : Int32) a_DIR_COMMENT_CONTENTS a_NAME a_URI_QUALIFIED_NAME a_BRACED_URI_LITERAL a_INTEGER a_DECIMAL a_DOUBLE a_STRING a_SYMBOL a_PREDEFINED_ENTITY_REF a_CHAR_REF a_ESCAPE_QUOT a_ESCAPE_APOS a_ELEMENT_CONTENT_CHAR a_QUOT_ATTR_CONTENT_CHAR a_APOS_ATTR_CONTENT_CHAR a_DIR_COMMENT_CONTENTS a_DIR_PI_CONTENTS a_CDATA_SECTION_CONTENTS a_PRAGMA_CONTENTS a_STRING_CONSTRUCTOR_CHARS a_END h0 n0 Z0 S_NAME S_URI_QUALIFIED_NAME S_BRACED_URI_LITERAL S_INTEGER S_DECIMAL S_DOUBLE S_STRING S_SYMBOL S_PREDEFINED_ENTITY_REF S_CHAR_REF S_ESCAPE_QUOT S_ESCAPE_APOS S_ELEMENT_CONTENT_CHAR S_QUOT_ATTR_CONTENT_CHAR S_APOS_ATTR_CONTENT_CHAR S_DIR_COMMENT_CONTENTS S_DIR_PI_CONTENTS S_CDATA_SECTION_CONTENTS S_PRAGMA_CONTENTS S_STRING_CONSTRUCTOR_CHARS S_END (Or.inr (Or.inr (Or.inr (Or.inr (Or.inr (Or.inr (Or.inr (Or.inr (Or.inr (Or.inr (Or.inr (Or.inr (Or.inr (Or.inr (Or.inr (Or.inl ⟨rfl, rfl⟩))))))))))))))))) (by decide) (by decide) (Nat.le_of_eq rfl) (by decide) (by decide) (rest := []) e0 rfl (hb hby at_9) ?_
    intro v31 T31 L31 X31 hQ31
    obtain ⟨rfl, N31q, e31⟩ := hQ31
    have N31 := Fr.app N0 N31q
    show own_Go p e below _ T31 (mkF m 12 #[.val (.int p1), .val (.int (15 : Int32)), .unset, .unset] [(.ref a_DIR_COMMENT_CONTENTS)])
    refine own_by (fun t_ k_ => XS.astoreN X31.here hx rfl (hb hby at_12) rfl rfl (l' := #[.val (.int p1), .val (.int (15 : Int32)), .val (.ref a_DIR_COMMENT_CONTENTS), .unset]) rfl k_) ?_
    show own_Go p e below _ T31 (mkF m 13 #[.val (.int p1), .val (.int (15 : Int32)), .val (.ref a_DIR_COMMENT_CONTENTS), .unset] [])
    refine own_by (fun t_ k_ => XS.iloadN X31.here hx rfl (hb hby at_13) rfl k_) ?_
    show own_Go p e below _ T31 (mkF m 14 #[.val (.int p1), .val (.int (15 : Int32)), .val (.ref a_DIR_COMMENT_CONTENTS), .unset] [(.int (15 : Int32))])
    refine own_if X31 hx 27 (hb hby at_14) (by decide) (by decide) (fun hc => absurd (show ¬ (15 : Int32) = (0 : Int32) from by decide) (by first | exact hc | exact not_not_intro hc)) (fun _ => ?_)
    show own_Go p e below _ T31 (mkF m 17 #[.val (.int p1), .val (.int (15 : Int32)), .val (.ref a_DIR_COMMENT_CONTENTS), .unset] [])
    refine own_by (fun t_ k_ => XS.iloadN X31.here hx rfl (hb hby at_17) rfl k_) ?_
    show own_Go p e below _ T31 (mkF m 18 #[.val (.int p1), .val (.int (15 : Int32)), .val (.ref a_DIR_COMMENT_CONTENTS), .unset] [(.int (15 : Int32))])
    refine own_by (fun t_ k_ => XS.iconst X31.here hx rfl (hb hby at_18) k_) ?_
    show own_Go p e below _ T31 (mkF m 19 #[.val (.int p1), .val (.int (15 : Int32)), .val (.ref a_DIR_COMMENT_CONTENTS), .unset] [(.int (1 : Int32)), (.int (15 : Int32))])
    refine own_icmp X31 hx 27 (hb hby at_19) (by decide) (by decide) (fun hc => absurd (show ¬ (15 : Int32) = (1 : Int32) from by decide) (by first | exact hc | exact not_not_intro hc)) (fun _ => ?_)
    show own_Go p e below _ T31 (mkF m 22 #[.val (.int p1), .val (.int (15 : Int32)), .val (.ref a_DIR_COMMENT_CONTENTS), .unset] [])
    refine own_by (fun t_ k_ => XS.iloadN X31.here hx rfl (hb hby at_22) rfl k_) ?_
    show own_Go p e below _ T31 (mkF m 23 #[.val (.int p1), .val (.int (15 : Int32)), .val (.ref a_DIR_COMMENT_CONTENTS), .unset] [(.int (15 : Int32))])
    refine own_by (fun t_ k_ => XS.iconst X31.here hx rfl (hb hby at_23) k_) ?_
    show own_Go p e below _ T31 (mkF m 24 #[.val (.int p1), .val (.int (15 : Int32)), .val (.ref a_DIR_COMMENT_CONTENTS), .unset] [(.int (2 : Int32)), (.int (15 : Int32))])
    refine own_icmp X31 hx 31 (hb hby at_24) (by decide) (by decide) (fun _ => ?_) (fun hc => absurd (show ¬ (15 : Int32) = (2 : Int32) from by decide) (by first | exact hc | exact not_not_intro hc))
    show own_Go p e below _ T31 (mkF m 31 #[.val (.int p1), .val (.int (15 : Int32)), .val (.ref a_DIR_COMMENT_CONTENTS), .unset] [])
    refine own_by (fun t_ k_ => XS.iconst X31.here hx rfl (hb hby at_31) k_) ?_
    show own_Go p e below _ T31 (mkF m 32 #[.val (.int p1), .val (.int (15 : Int32)), .val (.ref a_DIR_COMMENT_CONTENTS), .unset] [(.int (0 : Int32))])
    refine own_by (fun t_ k_ => XS.istoreN X31.here hx rfl (hb hby at_32) rfl (l' := #[.val (.int p1), .val (.int (15 : Int32)), .val (.ref a_DIR_COMMENT_CONTENTS), .val (.int (0 : Int32))]) rfl k_) ?_
    show own_Go p e below _ T31 (mkF m 33 #[.val (.int p1), .val (.int (15 : Int32)), .val (.ref a_DIR_COMMENT_CONTENTS), .val (.int (0 : Int32))] [])
    refine own_by (fun t_ k_ => XS.aloadN X31.here hx rfl (hb hby at_33) rfl rfl k_) ?_
    show own_Go p e below _ T31 (mkF m 34 #[.val (.int p1), .val (.int (15 : Int32)), .val (.ref a_DIR_COMMENT_CONTENTS), .val (.int (0 : Int32))] [(.ref a_DIR_COMMENT_CONTENTS)])
    refine own_callV (W := 0) X31 hx hZ (y := (⟨"com/example/quelex/quelex/Lexeme$Kind", "startsAsName", "()Z"⟩ : MethodName)) (z := (⟨"com/example/quelex/quelex/Lexeme$Kind", "startsAsName", "()Z"⟩ : MethodName)) hown (hw _ (List.mem_of_getElem? (i := 8) rfl)) (hw _ (List.mem_of_getElem? (i := 9) rfl)) (notFace_of_selects (args := #[]) (mvT hZ (hw _ (List.mem_of_getElem? (i := 11) rfl)))) (hw _ (List.mem_of_getElem? (i := 11) rfl)) (hw _ (List.mem_of_getElem? (i := 10) rfl)) (hw _ (List.mem_of_getElem? (i := 6) rfl)) (hw _ (List.mem_of_getElem? (i := 12) rfl)) (by decide) (by rw [hml]; rfl) (argsL := []) pd_1 rfl (a := a_DIR_COMMENT_CONTENTS) e31 E_DIR_COMMENT_CONTENTS (rm2 l Z a0 hw [] a_DIR_COMMENT_CONTENTS a_NAME a_URI_QUALIFIED_NAME a_BRACED_URI_LITERAL h0 n0 Z0 S_NAME S_URI_QUALIFIED_NAME S_BRACED_URI_LITERAL) (by decide) (by decide) (Nat.le_of_eq rfl) (by decide) (by decide) (rest := []) rfl (hb hby at_34) ?_
    intro v32 T32 L32 X32 hQ32
    obtain ⟨rfl, N32q, e32⟩ := hQ32
    have N32 := Fr.app N31 N32q
    show own_Go p e below _ T32 (mkF m 37 #[.val (.int p1), .val (.int (15 : Int32)), .val (.ref a_DIR_COMMENT_CONTENTS), .val (.int (0 : Int32))] [(.int (own_sn a_DIR_COMMENT_CONTENTS a_NAME a_URI_QUALIFIED_NAME a_BRACED_URI_LITERAL))])
    refine own_by (fun t_ k_ => XS.iloadN X32.here hx rfl (hb hby at_37) rfl k_) ?_
    show own_Go p e below _ T32 (mkF m 38 #[.val (.int p1), .val (.int (15 : Int32)), .val (.ref a_DIR_COMMENT_CONTENTS), .val (.int (0 : Int32))] [(.int (0 : Int32)), (.int (own_sn a_DIR_COMMENT_CONTENTS a_NAME a_URI_QUALIFIED_NAME a_BRACED_URI_LITERAL))])
    refine own_icmp X32 hx 45 (hb hby at_38) (by decide) (by decide) (fun hc => absurd (show (own_sn a_DIR_COMMENT_CONTENTS a_NAME a_URI_QUALIFIED_NAME a_BRACED_URI_LITERAL) = (0 : Int32) from by simp [own_sn, Fld.ne F_ordinal_DIR_COMMENT_CONTENTS F_ordinal_NAME (by decide), Fld.ne F_ordinal_DIR_COMMENT_CONTENTS F_ordinal_URI_QUALIFIED_NAME (by decide), Fld.ne F_ordinal_DIR_COMMENT_CONTENTS F_ordinal_BRACED_URI_LITERAL (by decide)]) (by first | exact hc | exact not_not_intro hc)) (fun _ => ?_)
    show own_Go p e below _ T32 (mkF m 41 #[.val (.int p1), .val (.int (15 : Int32)), .val (.ref a_DIR_COMMENT_CONTENTS), .val (.int (0 : Int32))] [])
    refine own_by (fun t_ k_ => XS.iconst X32.here hx rfl (hb hby at_41) k_) ?_
    show own_Go p e below _ T32 (mkF m 42 #[.val (.int p1), .val (.int (15 : Int32)), .val (.ref a_DIR_COMMENT_CONTENTS), .val (.int (0 : Int32))] [(.int (1 : Int32))])
    refine own_by (fun t_ k_ => XS.goto X32.here hx rfl (pc0 := 42) (pc' := 46) rfl (hb hby at_42) (by decide) (by decide) k_) ?_
    show own_Go p e below _ T32 (mkF m 46 #[.val (.int p1), .val (.int (15 : Int32)), .val (.ref a_DIR_COMMENT_CONTENTS), .val (.int (0 : Int32))] [(.int (1 : Int32))])
    refine own_retZ X32 hx hlk Bd.returns (by decide) (hb hby at_46) e32 (by decide) (by decide) ?_
    exact ⟨rfl, N32⟩
  · show own_Go p e below _ s₁ (mkF m 8 #[.val (.int p1), .val (.int (16 : Int32)), .unset, .unset] [])
    refine own_by (fun t_ k_ => XS.iloadN X0.here hx rfl (hb hby at_8) rfl k_) ?_
    show own_Go p e below _ s₁ (mkF m 9 #[.val (.int p1), .val (.int (16 : Int32)), .unset, .unset] [(.int (16 : Int32))])
    refine own_callS (W := 0) X0 hx hZ (y := (⟨"com/example/quelex/quelex/KindStartsAsNamePinLaw", "kindAt", "(I)Lcom/example/quelex/quelex/Lexeme$Kind;"⟩ : MethodName)) hown (hw _ (List.mem_of_getElem? (i := 1) rfl)) (hw _ (List.mem_of_getElem? (i := 2) rfl)) (hw _ (List.mem_of_getElem? (i := 3) rfl)) (hw _ (List.mem_of_getElem? (i := 4) rfl)) (by decide) (by rw [hml]; rfl) (argsL := [(.int (16 : Int32))]) pd_0 rfl (rm1 l Z a0 hw [] (16 : Int32) a_DIR_PI_CONTENTS a_NAME a_URI_QUALIFIED_NAME a_BRACED_URI_LITERAL a_INTEGER a_DECIMAL a_DOUBLE a_STRING a_SYMBOL a_PREDEFINED_ENTITY_REF a_CHAR_REF a_ESCAPE_QUOT a_ESCAPE_APOS a_ELEMENT_CONTENT_CHAR a_QUOT_ATTR_CONTENT_CHAR a_APOS_ATTR_CONTENT_CHAR a_DIR_COMMENT_CONTENTS a_DIR_PI_CONTENTS a_CDATA_SECTION_CONTENTS a_PRAGMA_CONTENTS a_STRING_CONSTRUCTOR_CHARS a_END h0 n0 Z0 S_NAME S_URI_QUALIFIED_NAME S_BRACED_URI_LITERAL S_INTEGER S_DECIMAL S_DOUBLE S_STRING S_SYMBOL S_PREDEFINED_ENTITY_REF S_CHAR_REF S_ESCAPE_QUOT S_ESCAPE_APOS S_ELEMENT_CONTENT_CHAR S_QUOT_ATTR_CONTENT_CHAR S_APOS_ATTR_CONTENT_CHAR S_DIR_COMMENT_CONTENTS S_DIR_PI_CONTENTS S_CDATA_SECTION_CONTENTS S_PRAGMA_CONTENTS S_STRING_CONSTRUCTOR_CHARS S_END (Or.inr (Or.inr (Or.inr (Or.inr (Or.inr (Or.inr (Or.inr (Or.inr (Or.inr (Or.inr (Or.inr (Or.inr (Or.inr (Or.inr (Or.inr (Or.inr (Or.inl ⟨rfl, rfl⟩)))))))))))))))))) (by decide) (by decide) (Nat.le_of_eq rfl) (by decide) (by decide) (rest := []) e0 rfl (hb hby at_9) ?_
    intro v33 T33 L33 X33 hQ33
    obtain ⟨rfl, N33q, e33⟩ := hQ33
    have N33 := Fr.app N0 N33q
    show own_Go p e below _ T33 (mkF m 12 #[.val (.int p1), .val (.int (16 : Int32)), .unset, .unset] [(.ref a_DIR_PI_CONTENTS)])
    refine own_by (fun t_ k_ => XS.astoreN X33.here hx rfl (hb hby at_12) rfl rfl (l' := #[.val (.int p1), .val (.int (16 : Int32)), .val (.ref a_DIR_PI_CONTENTS), .unset]) rfl k_) ?_
    show own_Go p e below _ T33 (mkF m 13 #[.val (.int p1), .val (.int (16 : Int32)), .val (.ref a_DIR_PI_CONTENTS), .unset] [])
    refine own_by (fun t_ k_ => XS.iloadN X33.here hx rfl (hb hby at_13) rfl k_) ?_
    show own_Go p e below _ T33 (mkF m 14 #[.val (.int p1), .val (.int (16 : Int32)), .val (.ref a_DIR_PI_CONTENTS), .unset] [(.int (16 : Int32))])
    refine own_if X33 hx 27 (hb hby at_14) (by decide) (by decide) (fun hc => absurd (show ¬ (16 : Int32) = (0 : Int32) from by decide) (by first | exact hc | exact not_not_intro hc)) (fun _ => ?_)
    show own_Go p e below _ T33 (mkF m 17 #[.val (.int p1), .val (.int (16 : Int32)), .val (.ref a_DIR_PI_CONTENTS), .unset] [])
    refine own_by (fun t_ k_ => XS.iloadN X33.here hx rfl (hb hby at_17) rfl k_) ?_
    show own_Go p e below _ T33 (mkF m 18 #[.val (.int p1), .val (.int (16 : Int32)), .val (.ref a_DIR_PI_CONTENTS), .unset] [(.int (16 : Int32))])
    refine own_by (fun t_ k_ => XS.iconst X33.here hx rfl (hb hby at_18) k_) ?_
    show own_Go p e below _ T33 (mkF m 19 #[.val (.int p1), .val (.int (16 : Int32)), .val (.ref a_DIR_PI_CONTENTS), .unset] [(.int (1 : Int32)), (.int (16 : Int32))])
    refine own_icmp X33 hx 27 (hb hby at_19) (by decide) (by decide) (fun hc => absurd (show ¬ (16 : Int32) = (1 : Int32) from by decide) (by first | exact hc | exact not_not_intro hc)) (fun _ => ?_)
    show own_Go p e below _ T33 (mkF m 22 #[.val (.int p1), .val (.int (16 : Int32)), .val (.ref a_DIR_PI_CONTENTS), .unset] [])
    refine own_by (fun t_ k_ => XS.iloadN X33.here hx rfl (hb hby at_22) rfl k_) ?_
    show own_Go p e below _ T33 (mkF m 23 #[.val (.int p1), .val (.int (16 : Int32)), .val (.ref a_DIR_PI_CONTENTS), .unset] [(.int (16 : Int32))])
    refine own_by (fun t_ k_ => XS.iconst X33.here hx rfl (hb hby at_23) k_) ?_
    show own_Go p e below _ T33 (mkF m 24 #[.val (.int p1), .val (.int (16 : Int32)), .val (.ref a_DIR_PI_CONTENTS), .unset] [(.int (2 : Int32)), (.int (16 : Int32))])
    refine own_icmp X33 hx 31 (hb hby at_24) (by decide) (by decide) (fun _ => ?_) (fun hc => absurd (show ¬ (16 : Int32) = (2 : Int32) from by decide) (by first | exact hc | exact not_not_intro hc))
    show own_Go p e below _ T33 (mkF m 31 #[.val (.int p1), .val (.int (16 : Int32)), .val (.ref a_DIR_PI_CONTENTS), .unset] [])
    refine own_by (fun t_ k_ => XS.iconst X33.here hx rfl (hb hby at_31) k_) ?_
    show own_Go p e below _ T33 (mkF m 32 #[.val (.int p1), .val (.int (16 : Int32)), .val (.ref a_DIR_PI_CONTENTS), .unset] [(.int (0 : Int32))])
    refine own_by (fun t_ k_ => XS.istoreN X33.here hx rfl (hb hby at_32) rfl (l' := #[.val (.int p1), .val (.int (16 : Int32)), .val (.ref a_DIR_PI_CONTENTS), .val (.int (0 : Int32))]) rfl k_) ?_
    show own_Go p e below _ T33 (mkF m 33 #[.val (.int p1), .val (.int (16 : Int32)), .val (.ref a_DIR_PI_CONTENTS), .val (.int (0 : Int32))] [])
    refine own_by (fun t_ k_ => XS.aloadN X33.here hx rfl (hb hby at_33) rfl rfl k_) ?_
    show own_Go p e below _ T33 (mkF m 34 #[.val (.int p1), .val (.int (16 : Int32)), .val (.ref a_DIR_PI_CONTENTS), .val (.int (0 : Int32))] [(.ref a_DIR_PI_CONTENTS)])
    refine own_callV (W := 0) X33 hx hZ (y := (⟨"com/example/quelex/quelex/Lexeme$Kind", "startsAsName", "()Z"⟩ : MethodName)) (z := (⟨"com/example/quelex/quelex/Lexeme$Kind", "startsAsName", "()Z"⟩ : MethodName)) hown (hw _ (List.mem_of_getElem? (i := 8) rfl)) (hw _ (List.mem_of_getElem? (i := 9) rfl)) (notFace_of_selects (args := #[]) (mvT hZ (hw _ (List.mem_of_getElem? (i := 11) rfl)))) (hw _ (List.mem_of_getElem? (i := 11) rfl)) (hw _ (List.mem_of_getElem? (i := 10) rfl)) (hw _ (List.mem_of_getElem? (i := 6) rfl)) (hw _ (List.mem_of_getElem? (i := 12) rfl)) (by decide) (by rw [hml]; rfl) (argsL := []) pd_1 rfl (a := a_DIR_PI_CONTENTS) e33 E_DIR_PI_CONTENTS (rm2 l Z a0 hw [] a_DIR_PI_CONTENTS a_NAME a_URI_QUALIFIED_NAME a_BRACED_URI_LITERAL h0 n0 Z0 S_NAME S_URI_QUALIFIED_NAME S_BRACED_URI_LITERAL) (by decide) (by decide) (Nat.le_of_eq rfl) (by decide) (by decide) (rest := []) rfl (hb hby at_34) ?_
    intro v34 T34 L34 X34 hQ34
    obtain ⟨rfl, N34q, e34⟩ := hQ34
    have N34 := Fr.app N33 N34q
    show own_Go p e below _ T34 (mkF m 37 #[.val (.int p1), .val (.int (16 : Int32)), .val (.ref a_DIR_PI_CONTENTS), .val (.int (0 : Int32))] [(.int (own_sn a_DIR_PI_CONTENTS a_NAME a_URI_QUALIFIED_NAME a_BRACED_URI_LITERAL))])
    refine own_by (fun t_ k_ => XS.iloadN X34.here hx rfl (hb hby at_37) rfl k_) ?_
    show own_Go p e below _ T34 (mkF m 38 #[.val (.int p1), .val (.int (16 : Int32)), .val (.ref a_DIR_PI_CONTENTS), .val (.int (0 : Int32))] [(.int (0 : Int32)), (.int (own_sn a_DIR_PI_CONTENTS a_NAME a_URI_QUALIFIED_NAME a_BRACED_URI_LITERAL))])
    refine own_icmp X34 hx 45 (hb hby at_38) (by decide) (by decide) (fun hc => absurd (show (own_sn a_DIR_PI_CONTENTS a_NAME a_URI_QUALIFIED_NAME a_BRACED_URI_LITERAL) = (0 : Int32) from by simp [own_sn, Fld.ne F_ordinal_DIR_PI_CONTENTS F_ordinal_NAME (by decide), Fld.ne F_ordinal_DIR_PI_CONTENTS F_ordinal_URI_QUALIFIED_NAME (by decide), Fld.ne F_ordinal_DIR_PI_CONTENTS F_ordinal_BRACED_URI_LITERAL (by decide)]) (by first | exact hc | exact not_not_intro hc)) (fun _ => ?_)
    show own_Go p e below _ T34 (mkF m 41 #[.val (.int p1), .val (.int (16 : Int32)), .val (.ref a_DIR_PI_CONTENTS), .val (.int (0 : Int32))] [])
    refine own_by (fun t_ k_ => XS.iconst X34.here hx rfl (hb hby at_41) k_) ?_
    show own_Go p e below _ T34 (mkF m 42 #[.val (.int p1), .val (.int (16 : Int32)), .val (.ref a_DIR_PI_CONTENTS), .val (.int (0 : Int32))] [(.int (1 : Int32))])
    refine own_by (fun t_ k_ => XS.goto X34.here hx rfl (pc0 := 42) (pc' := 46) rfl (hb hby at_42) (by decide) (by decide) k_) ?_
    show own_Go p e below _ T34 (mkF m 46 #[.val (.int p1), .val (.int (16 : Int32)), .val (.ref a_DIR_PI_CONTENTS), .val (.int (0 : Int32))] [(.int (1 : Int32))])
    refine own_retZ X34 hx hlk Bd.returns (by decide) (hb hby at_46) e34 (by decide) (by decide) ?_
    exact ⟨rfl, N34⟩
  · show own_Go p e below _ s₁ (mkF m 8 #[.val (.int p1), .val (.int (17 : Int32)), .unset, .unset] [])
    refine own_by (fun t_ k_ => XS.iloadN X0.here hx rfl (hb hby at_8) rfl k_) ?_
    show own_Go p e below _ s₁ (mkF m 9 #[.val (.int p1), .val (.int (17 : Int32)), .unset, .unset] [(.int (17 : Int32))])
    refine own_callS (W := 0) X0 hx hZ (y := (⟨"com/example/quelex/quelex/KindStartsAsNamePinLaw", "kindAt", "(I)Lcom/example/quelex/quelex/Lexeme$Kind;"⟩ : MethodName)) hown (hw _ (List.mem_of_getElem? (i := 1) rfl)) (hw _ (List.mem_of_getElem? (i := 2) rfl)) (hw _ (List.mem_of_getElem? (i := 3) rfl)) (hw _ (List.mem_of_getElem? (i := 4) rfl)) (by decide) (by rw [hml]; rfl) (argsL := [(.int (17 : Int32))]) pd_0 rfl (rm1 l Z a0 hw [] (17 : Int32) a_CDATA_SECTION_CONTENTS a_NAME a_URI_QUALIFIED_NAME a_BRACED_URI_LITERAL a_INTEGER a_DECIMAL a_DOUBLE a_STRING a_SYMBOL a_PREDEFINED_ENTITY_REF a_CHAR_REF a_ESCAPE_QUOT a_ESCAPE_APOS a_ELEMENT_CONTENT_CHAR a_QUOT_ATTR_CONTENT_CHAR a_APOS_ATTR_CONTENT_CHAR a_DIR_COMMENT_CONTENTS a_DIR_PI_CONTENTS a_CDATA_SECTION_CONTENTS a_PRAGMA_CONTENTS a_STRING_CONSTRUCTOR_CHARS a_END h0 n0 Z0 S_NAME S_URI_QUALIFIED_NAME S_BRACED_URI_LITERAL S_INTEGER S_DECIMAL S_DOUBLE S_STRING S_SYMBOL S_PREDEFINED_ENTITY_REF S_CHAR_REF S_ESCAPE_QUOT S_ESCAPE_APOS S_ELEMENT_CONTENT_CHAR S_QUOT_ATTR_CONTENT_CHAR S_APOS_ATTR_CONTENT_CHAR S_DIR_COMMENT_CONTENTS S_DIR_PI_CONTENTS S_CDATA_SECTION_CONTENTS S_PRAGMA_CONTENTS S_STRING_CONSTRUCTOR_CHARS S_END (Or.inr (Or.inr (Or.inr (Or.inr (Or.inr (Or.inr (Or.inr (Or.inr (Or.inr (Or.inr (Or.inr (Or.inr (Or.inr (Or.inr (Or.inr (Or.inr (Or.inr (Or.inl ⟨rfl, rfl⟩))))))))))))))))))) (by decide) (by decide) (Nat.le_of_eq rfl) (by decide) (by decide) (rest := []) e0 rfl (hb hby at_9) ?_
    intro v35 T35 L35 X35 hQ35
    obtain ⟨rfl, N35q, e35⟩ := hQ35
    have N35 := Fr.app N0 N35q
    show own_Go p e below _ T35 (mkF m 12 #[.val (.int p1), .val (.int (17 : Int32)), .unset, .unset] [(.ref a_CDATA_SECTION_CONTENTS)])
    refine own_by (fun t_ k_ => XS.astoreN X35.here hx rfl (hb hby at_12) rfl rfl (l' := #[.val (.int p1), .val (.int (17 : Int32)), .val (.ref a_CDATA_SECTION_CONTENTS), .unset]) rfl k_) ?_
    show own_Go p e below _ T35 (mkF m 13 #[.val (.int p1), .val (.int (17 : Int32)), .val (.ref a_CDATA_SECTION_CONTENTS), .unset] [])
    refine own_by (fun t_ k_ => XS.iloadN X35.here hx rfl (hb hby at_13) rfl k_) ?_
    show own_Go p e below _ T35 (mkF m 14 #[.val (.int p1), .val (.int (17 : Int32)), .val (.ref a_CDATA_SECTION_CONTENTS), .unset] [(.int (17 : Int32))])
    refine own_if X35 hx 27 (hb hby at_14) (by decide) (by decide) (fun hc => absurd (show ¬ (17 : Int32) = (0 : Int32) from by decide) (by first | exact hc | exact not_not_intro hc)) (fun _ => ?_)
    show own_Go p e below _ T35 (mkF m 17 #[.val (.int p1), .val (.int (17 : Int32)), .val (.ref a_CDATA_SECTION_CONTENTS), .unset] [])
    refine own_by (fun t_ k_ => XS.iloadN X35.here hx rfl (hb hby at_17) rfl k_) ?_
    show own_Go p e below _ T35 (mkF m 18 #[.val (.int p1), .val (.int (17 : Int32)), .val (.ref a_CDATA_SECTION_CONTENTS), .unset] [(.int (17 : Int32))])
    refine own_by (fun t_ k_ => XS.iconst X35.here hx rfl (hb hby at_18) k_) ?_
    show own_Go p e below _ T35 (mkF m 19 #[.val (.int p1), .val (.int (17 : Int32)), .val (.ref a_CDATA_SECTION_CONTENTS), .unset] [(.int (1 : Int32)), (.int (17 : Int32))])
    refine own_icmp X35 hx 27 (hb hby at_19) (by decide) (by decide) (fun hc => absurd (show ¬ (17 : Int32) = (1 : Int32) from by decide) (by first | exact hc | exact not_not_intro hc)) (fun _ => ?_)
    show own_Go p e below _ T35 (mkF m 22 #[.val (.int p1), .val (.int (17 : Int32)), .val (.ref a_CDATA_SECTION_CONTENTS), .unset] [])
    refine own_by (fun t_ k_ => XS.iloadN X35.here hx rfl (hb hby at_22) rfl k_) ?_
    show own_Go p e below _ T35 (mkF m 23 #[.val (.int p1), .val (.int (17 : Int32)), .val (.ref a_CDATA_SECTION_CONTENTS), .unset] [(.int (17 : Int32))])
    refine own_by (fun t_ k_ => XS.iconst X35.here hx rfl (hb hby at_23) k_) ?_
    show own_Go p e below _ T35 (mkF m 24 #[.val (.int p1), .val (.int (17 : Int32)), .val (.ref a_CDATA_SECTION_CONTENTS), .unset] [(.int (2 : Int32)), (.int (17 : Int32))])
    refine own_icmp X35 hx 31 (hb hby at_24) (by decide) (by decide) (fun _ => ?_) (fun hc => absurd (show ¬ (17 : Int32) = (2 : Int32) from by decide) (by first | exact hc | exact not_not_intro hc))
    show own_Go p e below _ T35 (mkF m 31 #[.val (.int p1), .val (.int (17 : Int32)), .val (.ref a_CDATA_SECTION_CONTENTS), .unset] [])
    refine own_by (fun t_ k_ => XS.iconst X35.here hx rfl (hb hby at_31) k_) ?_
    show own_Go p e below _ T35 (mkF m 32 #[.val (.int p1), .val (.int (17 : Int32)), .val (.ref a_CDATA_SECTION_CONTENTS), .unset] [(.int (0 : Int32))])
    refine own_by (fun t_ k_ => XS.istoreN X35.here hx rfl (hb hby at_32) rfl (l' := #[.val (.int p1), .val (.int (17 : Int32)), .val (.ref a_CDATA_SECTION_CONTENTS), .val (.int (0 : Int32))]) rfl k_) ?_
    show own_Go p e below _ T35 (mkF m 33 #[.val (.int p1), .val (.int (17 : Int32)), .val (.ref a_CDATA_SECTION_CONTENTS), .val (.int (0 : Int32))] [])
    refine own_by (fun t_ k_ => XS.aloadN X35.here hx rfl (hb hby at_33) rfl rfl k_) ?_
    show own_Go p e below _ T35 (mkF m 34 #[.val (.int p1), .val (.int (17 : Int32)), .val (.ref a_CDATA_SECTION_CONTENTS), .val (.int (0 : Int32))] [(.ref a_CDATA_SECTION_CONTENTS)])
    refine own_callV (W := 0) X35 hx hZ (y := (⟨"com/example/quelex/quelex/Lexeme$Kind", "startsAsName", "()Z"⟩ : MethodName)) (z := (⟨"com/example/quelex/quelex/Lexeme$Kind", "startsAsName", "()Z"⟩ : MethodName)) hown (hw _ (List.mem_of_getElem? (i := 8) rfl)) (hw _ (List.mem_of_getElem? (i := 9) rfl)) (notFace_of_selects (args := #[]) (mvT hZ (hw _ (List.mem_of_getElem? (i := 11) rfl)))) (hw _ (List.mem_of_getElem? (i := 11) rfl)) (hw _ (List.mem_of_getElem? (i := 10) rfl)) (hw _ (List.mem_of_getElem? (i := 6) rfl)) (hw _ (List.mem_of_getElem? (i := 12) rfl)) (by decide) (by rw [hml]; rfl) (argsL := []) pd_1 rfl (a := a_CDATA_SECTION_CONTENTS) e35 E_CDATA_SECTION_CONTENTS (rm2 l Z a0 hw [] a_CDATA_SECTION_CONTENTS a_NAME a_URI_QUALIFIED_NAME a_BRACED_URI_LITERAL h0 n0 Z0 S_NAME S_URI_QUALIFIED_NAME S_BRACED_URI_LITERAL) (by decide) (by decide) (Nat.le_of_eq rfl) (by decide) (by decide) (rest := []) rfl (hb hby at_34) ?_
    intro v36 T36 L36 X36 hQ36
    obtain ⟨rfl, N36q, e36⟩ := hQ36
    have N36 := Fr.app N35 N36q
    show own_Go p e below _ T36 (mkF m 37 #[.val (.int p1), .val (.int (17 : Int32)), .val (.ref a_CDATA_SECTION_CONTENTS), .val (.int (0 : Int32))] [(.int (own_sn a_CDATA_SECTION_CONTENTS a_NAME a_URI_QUALIFIED_NAME a_BRACED_URI_LITERAL))])
    refine own_by (fun t_ k_ => XS.iloadN X36.here hx rfl (hb hby at_37) rfl k_) ?_
    show own_Go p e below _ T36 (mkF m 38 #[.val (.int p1), .val (.int (17 : Int32)), .val (.ref a_CDATA_SECTION_CONTENTS), .val (.int (0 : Int32))] [(.int (0 : Int32)), (.int (own_sn a_CDATA_SECTION_CONTENTS a_NAME a_URI_QUALIFIED_NAME a_BRACED_URI_LITERAL))])
    refine own_icmp X36 hx 45 (hb hby at_38) (by decide) (by decide) (fun hc => absurd (show (own_sn a_CDATA_SECTION_CONTENTS a_NAME a_URI_QUALIFIED_NAME a_BRACED_URI_LITERAL) = (0 : Int32) from by simp [own_sn, Fld.ne F_ordinal_CDATA_SECTION_CONTENTS F_ordinal_NAME (by decide), Fld.ne F_ordinal_CDATA_SECTION_CONTENTS F_ordinal_URI_QUALIFIED_NAME (by decide), Fld.ne F_ordinal_CDATA_SECTION_CONTENTS F_ordinal_BRACED_URI_LITERAL (by decide)]) (by first | exact hc | exact not_not_intro hc)) (fun _ => ?_)
    show own_Go p e below _ T36 (mkF m 41 #[.val (.int p1), .val (.int (17 : Int32)), .val (.ref a_CDATA_SECTION_CONTENTS), .val (.int (0 : Int32))] [])
    refine own_by (fun t_ k_ => XS.iconst X36.here hx rfl (hb hby at_41) k_) ?_
    show own_Go p e below _ T36 (mkF m 42 #[.val (.int p1), .val (.int (17 : Int32)), .val (.ref a_CDATA_SECTION_CONTENTS), .val (.int (0 : Int32))] [(.int (1 : Int32))])
    refine own_by (fun t_ k_ => XS.goto X36.here hx rfl (pc0 := 42) (pc' := 46) rfl (hb hby at_42) (by decide) (by decide) k_) ?_
    show own_Go p e below _ T36 (mkF m 46 #[.val (.int p1), .val (.int (17 : Int32)), .val (.ref a_CDATA_SECTION_CONTENTS), .val (.int (0 : Int32))] [(.int (1 : Int32))])
    refine own_retZ X36 hx hlk Bd.returns (by decide) (hb hby at_46) e36 (by decide) (by decide) ?_
    exact ⟨rfl, N36⟩
  · show own_Go p e below _ s₁ (mkF m 8 #[.val (.int p1), .val (.int (18 : Int32)), .unset, .unset] [])
    refine own_by (fun t_ k_ => XS.iloadN X0.here hx rfl (hb hby at_8) rfl k_) ?_
    show own_Go p e below _ s₁ (mkF m 9 #[.val (.int p1), .val (.int (18 : Int32)), .unset, .unset] [(.int (18 : Int32))])
    refine own_callS (W := 0) X0 hx hZ (y := (⟨"com/example/quelex/quelex/KindStartsAsNamePinLaw", "kindAt", "(I)Lcom/example/quelex/quelex/Lexeme$Kind;"⟩ : MethodName)) hown (hw _ (List.mem_of_getElem? (i := 1) rfl)) (hw _ (List.mem_of_getElem? (i := 2) rfl)) (hw _ (List.mem_of_getElem? (i := 3) rfl)) (hw _ (List.mem_of_getElem? (i := 4) rfl)) (by decide) (by rw [hml]; rfl) (argsL := [(.int (18 : Int32))]) pd_0 rfl (rm1 l Z a0 hw [] (18 : Int32) a_PRAGMA_CONTENTS a_NAME a_URI_QUALIFIED_NAME a_BRACED_URI_LITERAL a_INTEGER a_DECIMAL a_DOUBLE a_STRING a_SYMBOL a_PREDEFINED_ENTITY_REF a_CHAR_REF a_ESCAPE_QUOT a_ESCAPE_APOS a_ELEMENT_CONTENT_CHAR a_QUOT_ATTR_CONTENT_CHAR a_APOS_ATTR_CONTENT_CHAR a_DIR_COMMENT_CONTENTS a_DIR_PI_CONTENTS a_CDATA_SECTION_CONTENTS a_PRAGMA_CONTENTS a_STRING_CONSTRUCTOR_CHARS a_END h0 n0 Z0 S_NAME S_URI_QUALIFIED_NAME S_BRACED_URI_LITERAL S_INTEGER S_DECIMAL S_DOUBLE S_STRING S_SYMBOL S_PREDEFINED_ENTITY_REF S_CHAR_REF S_ESCAPE_QUOT S_ESCAPE_APOS S_ELEMENT_CONTENT_CHAR S_QUOT_ATTR_CONTENT_CHAR S_APOS_ATTR_CONTENT_CHAR S_DIR_COMMENT_CONTENTS S_DIR_PI_CONTENTS S_CDATA_SECTION_CONTENTS S_PRAGMA_CONTENTS S_STRING_CONSTRUCTOR_CHARS S_END (Or.inr (Or.inr (Or.inr (Or.inr (Or.inr (Or.inr (Or.inr (Or.inr (Or.inr (Or.inr (Or.inr (Or.inr (Or.inr (Or.inr (Or.inr (Or.inr (Or.inr (Or.inr (Or.inl ⟨rfl, rfl⟩)))))))))))))))))))) (by decide) (by decide) (Nat.le_of_eq rfl) (by decide) (by decide) (rest := []) e0 rfl (hb hby at_9) ?_
    intro v37 T37 L37 X37 hQ37
    obtain ⟨rfl, N37q, e37⟩ := hQ37
    have N37 := Fr.app N0 N37q
    show own_Go p e below _ T37 (mkF m 12 #[.val (.int p1), .val (.int (18 : Int32)), .unset, .unset] [(.ref a_PRAGMA_CONTENTS)])
    refine own_by (fun t_ k_ => XS.astoreN X37.here hx rfl (hb hby at_12) rfl rfl (l' := #[.val (.int p1), .val (.int (18 : Int32)), .val (.ref a_PRAGMA_CONTENTS), .unset]) rfl k_) ?_
    show own_Go p e below _ T37 (mkF m 13 #[.val (.int p1), .val (.int (18 : Int32)), .val (.ref a_PRAGMA_CONTENTS), .unset] [])
    refine own_by (fun t_ k_ => XS.iloadN X37.here hx rfl (hb hby at_13) rfl k_) ?_
    show own_Go p e below _ T37 (mkF m 14 #[.val (.int p1), .val (.int (18 : Int32)), .val (.ref a_PRAGMA_CONTENTS), .unset] [(.int (18 : Int32))])
    refine own_if X37 hx 27 (hb hby at_14) (by decide) (by decide) (fun hc => absurd (show ¬ (18 : Int32) = (0 : Int32) from by decide) (by first | exact hc | exact not_not_intro hc)) (fun _ => ?_)
    show own_Go p e below _ T37 (mkF m 17 #[.val (.int p1), .val (.int (18 : Int32)), .val (.ref a_PRAGMA_CONTENTS), .unset] [])
    refine own_by (fun t_ k_ => XS.iloadN X37.here hx rfl (hb hby at_17) rfl k_) ?_
    show own_Go p e below _ T37 (mkF m 18 #[.val (.int p1), .val (.int (18 : Int32)), .val (.ref a_PRAGMA_CONTENTS), .unset] [(.int (18 : Int32))])
    refine own_by (fun t_ k_ => XS.iconst X37.here hx rfl (hb hby at_18) k_) ?_
    show own_Go p e below _ T37 (mkF m 19 #[.val (.int p1), .val (.int (18 : Int32)), .val (.ref a_PRAGMA_CONTENTS), .unset] [(.int (1 : Int32)), (.int (18 : Int32))])
    refine own_icmp X37 hx 27 (hb hby at_19) (by decide) (by decide) (fun hc => absurd (show ¬ (18 : Int32) = (1 : Int32) from by decide) (by first | exact hc | exact not_not_intro hc)) (fun _ => ?_)
    show own_Go p e below _ T37 (mkF m 22 #[.val (.int p1), .val (.int (18 : Int32)), .val (.ref a_PRAGMA_CONTENTS), .unset] [])
    refine own_by (fun t_ k_ => XS.iloadN X37.here hx rfl (hb hby at_22) rfl k_) ?_
    show own_Go p e below _ T37 (mkF m 23 #[.val (.int p1), .val (.int (18 : Int32)), .val (.ref a_PRAGMA_CONTENTS), .unset] [(.int (18 : Int32))])
    refine own_by (fun t_ k_ => XS.iconst X37.here hx rfl (hb hby at_23) k_) ?_
    show own_Go p e below _ T37 (mkF m 24 #[.val (.int p1), .val (.int (18 : Int32)), .val (.ref a_PRAGMA_CONTENTS), .unset] [(.int (2 : Int32)), (.int (18 : Int32))])
    refine own_icmp X37 hx 31 (hb hby at_24) (by decide) (by decide) (fun _ => ?_) (fun hc => absurd (show ¬ (18 : Int32) = (2 : Int32) from by decide) (by first | exact hc | exact not_not_intro hc))
    show own_Go p e below _ T37 (mkF m 31 #[.val (.int p1), .val (.int (18 : Int32)), .val (.ref a_PRAGMA_CONTENTS), .unset] [])
    refine own_by (fun t_ k_ => XS.iconst X37.here hx rfl (hb hby at_31) k_) ?_
    show own_Go p e below _ T37 (mkF m 32 #[.val (.int p1), .val (.int (18 : Int32)), .val (.ref a_PRAGMA_CONTENTS), .unset] [(.int (0 : Int32))])
    refine own_by (fun t_ k_ => XS.istoreN X37.here hx rfl (hb hby at_32) rfl (l' := #[.val (.int p1), .val (.int (18 : Int32)), .val (.ref a_PRAGMA_CONTENTS), .val (.int (0 : Int32))]) rfl k_) ?_
    show own_Go p e below _ T37 (mkF m 33 #[.val (.int p1), .val (.int (18 : Int32)), .val (.ref a_PRAGMA_CONTENTS), .val (.int (0 : Int32))] [])
    refine own_by (fun t_ k_ => XS.aloadN X37.here hx rfl (hb hby at_33) rfl rfl k_) ?_
    show own_Go p e below _ T37 (mkF m 34 #[.val (.int p1), .val (.int (18 : Int32)), .val (.ref a_PRAGMA_CONTENTS), .val (.int (0 : Int32))] [(.ref a_PRAGMA_CONTENTS)])
    refine own_callV (W := 0) X37 hx hZ (y := (⟨"com/example/quelex/quelex/Lexeme$Kind", "startsAsName", "()Z"⟩ : MethodName)) (z := (⟨"com/example/quelex/quelex/Lexeme$Kind", "startsAsName", "()Z"⟩ : MethodName)) hown (hw _ (List.mem_of_getElem? (i := 8) rfl)) (hw _ (List.mem_of_getElem? (i := 9) rfl)) (notFace_of_selects (args := #[]) (mvT hZ (hw _ (List.mem_of_getElem? (i := 11) rfl)))) (hw _ (List.mem_of_getElem? (i := 11) rfl)) (hw _ (List.mem_of_getElem? (i := 10) rfl)) (hw _ (List.mem_of_getElem? (i := 6) rfl)) (hw _ (List.mem_of_getElem? (i := 12) rfl)) (by decide) (by rw [hml]; rfl) (argsL := []) pd_1 rfl (a := a_PRAGMA_CONTENTS) e37 E_PRAGMA_CONTENTS (rm2 l Z a0 hw [] a_PRAGMA_CONTENTS a_NAME a_URI_QUALIFIED_NAME a_BRACED_URI_LITERAL h0 n0 Z0 S_NAME S_URI_QUALIFIED_NAME S_BRACED_URI_LITERAL) (by decide) (by decide) (Nat.le_of_eq rfl) (by decide) (by decide) (rest := []) rfl (hb hby at_34) ?_
    intro v38 T38 L38 X38 hQ38
    obtain ⟨rfl, N38q, e38⟩ := hQ38
    have N38 := Fr.app N37 N38q
    show own_Go p e below _ T38 (mkF m 37 #[.val (.int p1), .val (.int (18 : Int32)), .val (.ref a_PRAGMA_CONTENTS), .val (.int (0 : Int32))] [(.int (own_sn a_PRAGMA_CONTENTS a_NAME a_URI_QUALIFIED_NAME a_BRACED_URI_LITERAL))])
    refine own_by (fun t_ k_ => XS.iloadN X38.here hx rfl (hb hby at_37) rfl k_) ?_
    show own_Go p e below _ T38 (mkF m 38 #[.val (.int p1), .val (.int (18 : Int32)), .val (.ref a_PRAGMA_CONTENTS), .val (.int (0 : Int32))] [(.int (0 : Int32)), (.int (own_sn a_PRAGMA_CONTENTS a_NAME a_URI_QUALIFIED_NAME a_BRACED_URI_LITERAL))])
    refine own_icmp X38 hx 45 (hb hby at_38) (by decide) (by decide) (fun hc => absurd (show (own_sn a_PRAGMA_CONTENTS a_NAME a_URI_QUALIFIED_NAME a_BRACED_URI_LITERAL) = (0 : Int32) from by simp [own_sn, Fld.ne F_ordinal_PRAGMA_CONTENTS F_ordinal_NAME (by decide), Fld.ne F_ordinal_PRAGMA_CONTENTS F_ordinal_URI_QUALIFIED_NAME (by decide), Fld.ne F_ordinal_PRAGMA_CONTENTS F_ordinal_BRACED_URI_LITERAL (by decide)]) (by first | exact hc | exact not_not_intro hc)) (fun _ => ?_)
    show own_Go p e below _ T38 (mkF m 41 #[.val (.int p1), .val (.int (18 : Int32)), .val (.ref a_PRAGMA_CONTENTS), .val (.int (0 : Int32))] [])
    refine own_by (fun t_ k_ => XS.iconst X38.here hx rfl (hb hby at_41) k_) ?_
    show own_Go p e below _ T38 (mkF m 42 #[.val (.int p1), .val (.int (18 : Int32)), .val (.ref a_PRAGMA_CONTENTS), .val (.int (0 : Int32))] [(.int (1 : Int32))])
    refine own_by (fun t_ k_ => XS.goto X38.here hx rfl (pc0 := 42) (pc' := 46) rfl (hb hby at_42) (by decide) (by decide) k_) ?_
    show own_Go p e below _ T38 (mkF m 46 #[.val (.int p1), .val (.int (18 : Int32)), .val (.ref a_PRAGMA_CONTENTS), .val (.int (0 : Int32))] [(.int (1 : Int32))])
    refine own_retZ X38 hx hlk Bd.returns (by decide) (hb hby at_46) e38 (by decide) (by decide) ?_
    exact ⟨rfl, N38⟩
  · show own_Go p e below _ s₁ (mkF m 8 #[.val (.int p1), .val (.int (19 : Int32)), .unset, .unset] [])
    refine own_by (fun t_ k_ => XS.iloadN X0.here hx rfl (hb hby at_8) rfl k_) ?_
    show own_Go p e below _ s₁ (mkF m 9 #[.val (.int p1), .val (.int (19 : Int32)), .unset, .unset] [(.int (19 : Int32))])
    refine own_callS (W := 0) X0 hx hZ (y := (⟨"com/example/quelex/quelex/KindStartsAsNamePinLaw", "kindAt", "(I)Lcom/example/quelex/quelex/Lexeme$Kind;"⟩ : MethodName)) hown (hw _ (List.mem_of_getElem? (i := 1) rfl)) (hw _ (List.mem_of_getElem? (i := 2) rfl)) (hw _ (List.mem_of_getElem? (i := 3) rfl)) (hw _ (List.mem_of_getElem? (i := 4) rfl)) (by decide) (by rw [hml]; rfl) (argsL := [(.int (19 : Int32))]) pd_0 rfl (rm1 l Z a0 hw [] (19 : Int32) a_STRING_CONSTRUCTOR_CHARS a_NAME a_URI_QUALIFIED_NAME a_BRACED_URI_LITERAL a_INTEGER a_DECIMAL a_DOUBLE a_STRING a_SYMBOL a_PREDEFINED_ENTITY_REF a_CHAR_REF a_ESCAPE_QUOT a_ESCAPE_APOS a_ELEMENT_CONTENT_CHAR a_QUOT_ATTR_CONTENT_CHAR a_APOS_ATTR_CONTENT_CHAR a_DIR_COMMENT_CONTENTS a_DIR_PI_CONTENTS a_CDATA_SECTION_CONTENTS a_PRAGMA_CONTENTS a_STRING_CONSTRUCTOR_CHARS a_END h0 n0 Z0 S_NAME S_URI_QUALIFIED_NAME S_BRACED_URI_LITERAL S_INTEGER S_DECIMAL S_DOUBLE S_STRING S_SYMBOL S_PREDEFINED_ENTITY_REF S_CHAR_REF S_ESCAPE_QUOT S_ESCAPE_APOS S_ELEMENT_CONTENT_CHAR S_QUOT_ATTR_CONTENT_CHAR S_APOS_ATTR_CONTENT_CHAR S_DIR_COMMENT_CONTENTS S_DIR_PI_CONTENTS S_CDATA_SECTION_CONTENTS S_PRAGMA_CONTENTS S_STRING_CONSTRUCTOR_CHARS S_END (Or.inr (Or.inr (Or.inr (Or.inr (Or.inr (Or.inr (Or.inr (Or.inr (Or.inr (Or.inr (Or.inr (Or.inr (Or.inr (Or.inr (Or.inr (Or.inr (Or.inr (Or.inr (Or.inr (Or.inl ⟨rfl, rfl⟩))))))))))))))))))))) (by decide) (by decide) (Nat.le_of_eq rfl) (by decide) (by decide) (rest := []) e0 rfl (hb hby at_9) ?_
    intro v39 T39 L39 X39 hQ39
    obtain ⟨rfl, N39q, e39⟩ := hQ39
    have N39 := Fr.app N0 N39q
    show own_Go p e below _ T39 (mkF m 12 #[.val (.int p1), .val (.int (19 : Int32)), .unset, .unset] [(.ref a_STRING_CONSTRUCTOR_CHARS)])
    refine own_by (fun t_ k_ => XS.astoreN X39.here hx rfl (hb hby at_12) rfl rfl (l' := #[.val (.int p1), .val (.int (19 : Int32)), .val (.ref a_STRING_CONSTRUCTOR_CHARS), .unset]) rfl k_) ?_
    show own_Go p e below _ T39 (mkF m 13 #[.val (.int p1), .val (.int (19 : Int32)), .val (.ref a_STRING_CONSTRUCTOR_CHARS), .unset] [])
    refine own_by (fun t_ k_ => XS.iloadN X39.here hx rfl (hb hby at_13) rfl k_) ?_
    show own_Go p e below _ T39 (mkF m 14 #[.val (.int p1), .val (.int (19 : Int32)), .val (.ref a_STRING_CONSTRUCTOR_CHARS), .unset] [(.int (19 : Int32))])
    refine own_if X39 hx 27 (hb hby at_14) (by decide) (by decide) (fun hc => absurd (show ¬ (19 : Int32) = (0 : Int32) from by decide) (by first | exact hc | exact not_not_intro hc)) (fun _ => ?_)
    show own_Go p e below _ T39 (mkF m 17 #[.val (.int p1), .val (.int (19 : Int32)), .val (.ref a_STRING_CONSTRUCTOR_CHARS), .unset] [])
    refine own_by (fun t_ k_ => XS.iloadN X39.here hx rfl (hb hby at_17) rfl k_) ?_
    show own_Go p e below _ T39 (mkF m 18 #[.val (.int p1), .val (.int (19 : Int32)), .val (.ref a_STRING_CONSTRUCTOR_CHARS), .unset] [(.int (19 : Int32))])
    refine own_by (fun t_ k_ => XS.iconst X39.here hx rfl (hb hby at_18) k_) ?_
    show own_Go p e below _ T39 (mkF m 19 #[.val (.int p1), .val (.int (19 : Int32)), .val (.ref a_STRING_CONSTRUCTOR_CHARS), .unset] [(.int (1 : Int32)), (.int (19 : Int32))])
    refine own_icmp X39 hx 27 (hb hby at_19) (by decide) (by decide) (fun hc => absurd (show ¬ (19 : Int32) = (1 : Int32) from by decide) (by first | exact hc | exact not_not_intro hc)) (fun _ => ?_)
    show own_Go p e below _ T39 (mkF m 22 #[.val (.int p1), .val (.int (19 : Int32)), .val (.ref a_STRING_CONSTRUCTOR_CHARS), .unset] [])
    refine own_by (fun t_ k_ => XS.iloadN X39.here hx rfl (hb hby at_22) rfl k_) ?_
    show own_Go p e below _ T39 (mkF m 23 #[.val (.int p1), .val (.int (19 : Int32)), .val (.ref a_STRING_CONSTRUCTOR_CHARS), .unset] [(.int (19 : Int32))])
    refine own_by (fun t_ k_ => XS.iconst X39.here hx rfl (hb hby at_23) k_) ?_
    show own_Go p e below _ T39 (mkF m 24 #[.val (.int p1), .val (.int (19 : Int32)), .val (.ref a_STRING_CONSTRUCTOR_CHARS), .unset] [(.int (2 : Int32)), (.int (19 : Int32))])
    refine own_icmp X39 hx 31 (hb hby at_24) (by decide) (by decide) (fun _ => ?_) (fun hc => absurd (show ¬ (19 : Int32) = (2 : Int32) from by decide) (by first | exact hc | exact not_not_intro hc))
    show own_Go p e below _ T39 (mkF m 31 #[.val (.int p1), .val (.int (19 : Int32)), .val (.ref a_STRING_CONSTRUCTOR_CHARS), .unset] [])
    refine own_by (fun t_ k_ => XS.iconst X39.here hx rfl (hb hby at_31) k_) ?_
    show own_Go p e below _ T39 (mkF m 32 #[.val (.int p1), .val (.int (19 : Int32)), .val (.ref a_STRING_CONSTRUCTOR_CHARS), .unset] [(.int (0 : Int32))])
    refine own_by (fun t_ k_ => XS.istoreN X39.here hx rfl (hb hby at_32) rfl (l' := #[.val (.int p1), .val (.int (19 : Int32)), .val (.ref a_STRING_CONSTRUCTOR_CHARS), .val (.int (0 : Int32))]) rfl k_) ?_
    show own_Go p e below _ T39 (mkF m 33 #[.val (.int p1), .val (.int (19 : Int32)), .val (.ref a_STRING_CONSTRUCTOR_CHARS), .val (.int (0 : Int32))] [])
    refine own_by (fun t_ k_ => XS.aloadN X39.here hx rfl (hb hby at_33) rfl rfl k_) ?_
    show own_Go p e below _ T39 (mkF m 34 #[.val (.int p1), .val (.int (19 : Int32)), .val (.ref a_STRING_CONSTRUCTOR_CHARS), .val (.int (0 : Int32))] [(.ref a_STRING_CONSTRUCTOR_CHARS)])
    refine own_callV (W := 0) X39 hx hZ (y := (⟨"com/example/quelex/quelex/Lexeme$Kind", "startsAsName", "()Z"⟩ : MethodName)) (z := (⟨"com/example/quelex/quelex/Lexeme$Kind", "startsAsName", "()Z"⟩ : MethodName)) hown (hw _ (List.mem_of_getElem? (i := 8) rfl)) (hw _ (List.mem_of_getElem? (i := 9) rfl)) (notFace_of_selects (args := #[]) (mvT hZ (hw _ (List.mem_of_getElem? (i := 11) rfl)))) (hw _ (List.mem_of_getElem? (i := 11) rfl)) (hw _ (List.mem_of_getElem? (i := 10) rfl)) (hw _ (List.mem_of_getElem? (i := 6) rfl)) (hw _ (List.mem_of_getElem? (i := 12) rfl)) (by decide) (by rw [hml]; rfl) (argsL := []) pd_1 rfl (a := a_STRING_CONSTRUCTOR_CHARS) e39 E_STRING_CONSTRUCTOR_CHARS (rm2 l Z a0 hw [] a_STRING_CONSTRUCTOR_CHARS a_NAME a_URI_QUALIFIED_NAME a_BRACED_URI_LITERAL h0 n0 Z0 S_NAME S_URI_QUALIFIED_NAME S_BRACED_URI_LITERAL) (by decide) (by decide) (Nat.le_of_eq rfl) (by decide) (by decide) (rest := []) rfl (hb hby at_34) ?_
    intro v40 T40 L40 X40 hQ40
    obtain ⟨rfl, N40q, e40⟩ := hQ40
    have N40 := Fr.app N39 N40q
    show own_Go p e below _ T40 (mkF m 37 #[.val (.int p1), .val (.int (19 : Int32)), .val (.ref a_STRING_CONSTRUCTOR_CHARS), .val (.int (0 : Int32))] [(.int (own_sn a_STRING_CONSTRUCTOR_CHARS a_NAME a_URI_QUALIFIED_NAME a_BRACED_URI_LITERAL))])
    refine own_by (fun t_ k_ => XS.iloadN X40.here hx rfl (hb hby at_37) rfl k_) ?_
    show own_Go p e below _ T40 (mkF m 38 #[.val (.int p1), .val (.int (19 : Int32)), .val (.ref a_STRING_CONSTRUCTOR_CHARS), .val (.int (0 : Int32))] [(.int (0 : Int32)), (.int (own_sn a_STRING_CONSTRUCTOR_CHARS a_NAME a_URI_QUALIFIED_NAME a_BRACED_URI_LITERAL))])
    refine own_icmp X40 hx 45 (hb hby at_38) (by decide) (by decide) (fun hc => absurd (show (own_sn a_STRING_CONSTRUCTOR_CHARS a_NAME a_URI_QUALIFIED_NAME a_BRACED_URI_LITERAL) = (0 : Int32) from by simp [own_sn, Fld.ne F_ordinal_STRING_CONSTRUCTOR_CHARS F_ordinal_NAME (by decide), Fld.ne F_ordinal_STRING_CONSTRUCTOR_CHARS F_ordinal_URI_QUALIFIED_NAME (by decide), Fld.ne F_ordinal_STRING_CONSTRUCTOR_CHARS F_ordinal_BRACED_URI_LITERAL (by decide)]) (by first | exact hc | exact not_not_intro hc)) (fun _ => ?_)
    show own_Go p e below _ T40 (mkF m 41 #[.val (.int p1), .val (.int (19 : Int32)), .val (.ref a_STRING_CONSTRUCTOR_CHARS), .val (.int (0 : Int32))] [])
    refine own_by (fun t_ k_ => XS.iconst X40.here hx rfl (hb hby at_41) k_) ?_
    show own_Go p e below _ T40 (mkF m 42 #[.val (.int p1), .val (.int (19 : Int32)), .val (.ref a_STRING_CONSTRUCTOR_CHARS), .val (.int (0 : Int32))] [(.int (1 : Int32))])
    refine own_by (fun t_ k_ => XS.goto X40.here hx rfl (pc0 := 42) (pc' := 46) rfl (hb hby at_42) (by decide) (by decide) k_) ?_
    show own_Go p e below _ T40 (mkF m 46 #[.val (.int p1), .val (.int (19 : Int32)), .val (.ref a_STRING_CONSTRUCTOR_CHARS), .val (.int (0 : Int32))] [(.int (1 : Int32))])
    refine own_retZ X40 hx hlk Bd.returns (by decide) (hb hby at_46) e40 (by decide) (by decide) ?_
    exact ⟨rfl, N40⟩
  · show own_Go p e below _ s₁ (mkF m 8 #[.val (.int p1), .val (.int (20 : Int32)), .unset, .unset] [])
    refine own_by (fun t_ k_ => XS.iloadN X0.here hx rfl (hb hby at_8) rfl k_) ?_
    show own_Go p e below _ s₁ (mkF m 9 #[.val (.int p1), .val (.int (20 : Int32)), .unset, .unset] [(.int (20 : Int32))])
    refine own_callS (W := 0) X0 hx hZ (y := (⟨"com/example/quelex/quelex/KindStartsAsNamePinLaw", "kindAt", "(I)Lcom/example/quelex/quelex/Lexeme$Kind;"⟩ : MethodName)) hown (hw _ (List.mem_of_getElem? (i := 1) rfl)) (hw _ (List.mem_of_getElem? (i := 2) rfl)) (hw _ (List.mem_of_getElem? (i := 3) rfl)) (hw _ (List.mem_of_getElem? (i := 4) rfl)) (by decide) (by rw [hml]; rfl) (argsL := [(.int (20 : Int32))]) pd_0 rfl (rm1 l Z a0 hw [] (20 : Int32) a_END a_NAME a_URI_QUALIFIED_NAME a_BRACED_URI_LITERAL a_INTEGER a_DECIMAL a_DOUBLE a_STRING a_SYMBOL a_PREDEFINED_ENTITY_REF a_CHAR_REF a_ESCAPE_QUOT a_ESCAPE_APOS a_ELEMENT_CONTENT_CHAR a_QUOT_ATTR_CONTENT_CHAR a_APOS_ATTR_CONTENT_CHAR a_DIR_COMMENT_CONTENTS a_DIR_PI_CONTENTS a_CDATA_SECTION_CONTENTS a_PRAGMA_CONTENTS a_STRING_CONSTRUCTOR_CHARS a_END h0 n0 Z0 S_NAME S_URI_QUALIFIED_NAME S_BRACED_URI_LITERAL S_INTEGER S_DECIMAL S_DOUBLE S_STRING S_SYMBOL S_PREDEFINED_ENTITY_REF S_CHAR_REF S_ESCAPE_QUOT S_ESCAPE_APOS S_ELEMENT_CONTENT_CHAR S_QUOT_ATTR_CONTENT_CHAR S_APOS_ATTR_CONTENT_CHAR S_DIR_COMMENT_CONTENTS S_DIR_PI_CONTENTS S_CDATA_SECTION_CONTENTS S_PRAGMA_CONTENTS S_STRING_CONSTRUCTOR_CHARS S_END (Or.inr (Or.inr (Or.inr (Or.inr (Or.inr (Or.inr (Or.inr (Or.inr (Or.inr (Or.inr (Or.inr (Or.inr (Or.inr (Or.inr (Or.inr (Or.inr (Or.inr (Or.inr (Or.inr (Or.inr (⟨rfl, rfl⟩)))))))))))))))))))))) (by decide) (by decide) (Nat.le_of_eq rfl) (by decide) (by decide) (rest := []) e0 rfl (hb hby at_9) ?_
    intro v41 T41 L41 X41 hQ41
    obtain ⟨rfl, N41q, e41⟩ := hQ41
    have N41 := Fr.app N0 N41q
    show own_Go p e below _ T41 (mkF m 12 #[.val (.int p1), .val (.int (20 : Int32)), .unset, .unset] [(.ref a_END)])
    refine own_by (fun t_ k_ => XS.astoreN X41.here hx rfl (hb hby at_12) rfl rfl (l' := #[.val (.int p1), .val (.int (20 : Int32)), .val (.ref a_END), .unset]) rfl k_) ?_
    show own_Go p e below _ T41 (mkF m 13 #[.val (.int p1), .val (.int (20 : Int32)), .val (.ref a_END), .unset] [])
    refine own_by (fun t_ k_ => XS.iloadN X41.here hx rfl (hb hby at_13) rfl k_) ?_
    show own_Go p e below _ T41 (mkF m 14 #[.val (.int p1), .val (.int (20 : Int32)), .val (.ref a_END), .unset] [(.int (20 : Int32))])
    refine own_if X41 hx 27 (hb hby at_14) (by decide) (by decide) (fun hc => absurd (show ¬ (20 : Int32) = (0 : Int32) from by decide) (by first | exact hc | exact not_not_intro hc)) (fun _ => ?_)
    show own_Go p e below _ T41 (mkF m 17 #[.val (.int p1), .val (.int (20 : Int32)), .val (.ref a_END), .unset] [])
    refine own_by (fun t_ k_ => XS.iloadN X41.here hx rfl (hb hby at_17) rfl k_) ?_
    show own_Go p e below _ T41 (mkF m 18 #[.val (.int p1), .val (.int (20 : Int32)), .val (.ref a_END), .unset] [(.int (20 : Int32))])
    refine own_by (fun t_ k_ => XS.iconst X41.here hx rfl (hb hby at_18) k_) ?_
    show own_Go p e below _ T41 (mkF m 19 #[.val (.int p1), .val (.int (20 : Int32)), .val (.ref a_END), .unset] [(.int (1 : Int32)), (.int (20 : Int32))])
    refine own_icmp X41 hx 27 (hb hby at_19) (by decide) (by decide) (fun hc => absurd (show ¬ (20 : Int32) = (1 : Int32) from by decide) (by first | exact hc | exact not_not_intro hc)) (fun _ => ?_)
    show own_Go p e below _ T41 (mkF m 22 #[.val (.int p1), .val (.int (20 : Int32)), .val (.ref a_END), .unset] [])
    refine own_by (fun t_ k_ => XS.iloadN X41.here hx rfl (hb hby at_22) rfl k_) ?_
    show own_Go p e below _ T41 (mkF m 23 #[.val (.int p1), .val (.int (20 : Int32)), .val (.ref a_END), .unset] [(.int (20 : Int32))])
    refine own_by (fun t_ k_ => XS.iconst X41.here hx rfl (hb hby at_23) k_) ?_
    show own_Go p e below _ T41 (mkF m 24 #[.val (.int p1), .val (.int (20 : Int32)), .val (.ref a_END), .unset] [(.int (2 : Int32)), (.int (20 : Int32))])
    refine own_icmp X41 hx 31 (hb hby at_24) (by decide) (by decide) (fun _ => ?_) (fun hc => absurd (show ¬ (20 : Int32) = (2 : Int32) from by decide) (by first | exact hc | exact not_not_intro hc))
    show own_Go p e below _ T41 (mkF m 31 #[.val (.int p1), .val (.int (20 : Int32)), .val (.ref a_END), .unset] [])
    refine own_by (fun t_ k_ => XS.iconst X41.here hx rfl (hb hby at_31) k_) ?_
    show own_Go p e below _ T41 (mkF m 32 #[.val (.int p1), .val (.int (20 : Int32)), .val (.ref a_END), .unset] [(.int (0 : Int32))])
    refine own_by (fun t_ k_ => XS.istoreN X41.here hx rfl (hb hby at_32) rfl (l' := #[.val (.int p1), .val (.int (20 : Int32)), .val (.ref a_END), .val (.int (0 : Int32))]) rfl k_) ?_
    show own_Go p e below _ T41 (mkF m 33 #[.val (.int p1), .val (.int (20 : Int32)), .val (.ref a_END), .val (.int (0 : Int32))] [])
    refine own_by (fun t_ k_ => XS.aloadN X41.here hx rfl (hb hby at_33) rfl rfl k_) ?_
    show own_Go p e below _ T41 (mkF m 34 #[.val (.int p1), .val (.int (20 : Int32)), .val (.ref a_END), .val (.int (0 : Int32))] [(.ref a_END)])
    refine own_callV (W := 0) X41 hx hZ (y := (⟨"com/example/quelex/quelex/Lexeme$Kind", "startsAsName", "()Z"⟩ : MethodName)) (z := (⟨"com/example/quelex/quelex/Lexeme$Kind", "startsAsName", "()Z"⟩ : MethodName)) hown (hw _ (List.mem_of_getElem? (i := 8) rfl)) (hw _ (List.mem_of_getElem? (i := 9) rfl)) (notFace_of_selects (args := #[]) (mvT hZ (hw _ (List.mem_of_getElem? (i := 11) rfl)))) (hw _ (List.mem_of_getElem? (i := 11) rfl)) (hw _ (List.mem_of_getElem? (i := 10) rfl)) (hw _ (List.mem_of_getElem? (i := 6) rfl)) (hw _ (List.mem_of_getElem? (i := 12) rfl)) (by decide) (by rw [hml]; rfl) (argsL := []) pd_1 rfl (a := a_END) e41 E_END (rm2 l Z a0 hw [] a_END a_NAME a_URI_QUALIFIED_NAME a_BRACED_URI_LITERAL h0 n0 Z0 S_NAME S_URI_QUALIFIED_NAME S_BRACED_URI_LITERAL) (by decide) (by decide) (Nat.le_of_eq rfl) (by decide) (by decide) (rest := []) rfl (hb hby at_34) ?_
    intro v42 T42 L42 X42 hQ42
    obtain ⟨rfl, N42q, e42⟩ := hQ42
    have N42 := Fr.app N41 N42q
    show own_Go p e below _ T42 (mkF m 37 #[.val (.int p1), .val (.int (20 : Int32)), .val (.ref a_END), .val (.int (0 : Int32))] [(.int (own_sn a_END a_NAME a_URI_QUALIFIED_NAME a_BRACED_URI_LITERAL))])
    refine own_by (fun t_ k_ => XS.iloadN X42.here hx rfl (hb hby at_37) rfl k_) ?_
    show own_Go p e below _ T42 (mkF m 38 #[.val (.int p1), .val (.int (20 : Int32)), .val (.ref a_END), .val (.int (0 : Int32))] [(.int (0 : Int32)), (.int (own_sn a_END a_NAME a_URI_QUALIFIED_NAME a_BRACED_URI_LITERAL))])
    refine own_icmp X42 hx 45 (hb hby at_38) (by decide) (by decide) (fun hc => absurd (show (own_sn a_END a_NAME a_URI_QUALIFIED_NAME a_BRACED_URI_LITERAL) = (0 : Int32) from by simp [own_sn, Fld.ne F_ordinal_END F_ordinal_NAME (by decide), Fld.ne F_ordinal_END F_ordinal_URI_QUALIFIED_NAME (by decide), Fld.ne F_ordinal_END F_ordinal_BRACED_URI_LITERAL (by decide)]) (by first | exact hc | exact not_not_intro hc)) (fun _ => ?_)
    show own_Go p e below _ T42 (mkF m 41 #[.val (.int p1), .val (.int (20 : Int32)), .val (.ref a_END), .val (.int (0 : Int32))] [])
    refine own_by (fun t_ k_ => XS.iconst X42.here hx rfl (hb hby at_41) k_) ?_
    show own_Go p e below _ T42 (mkF m 42 #[.val (.int p1), .val (.int (20 : Int32)), .val (.ref a_END), .val (.int (0 : Int32))] [(.int (1 : Int32))])
    refine own_by (fun t_ k_ => XS.goto X42.here hx rfl (pc0 := 42) (pc' := 46) rfl (hb hby at_42) (by decide) (by decide) k_) ?_
    show own_Go p e below _ T42 (mkF m 46 #[.val (.int p1), .val (.int (20 : Int32)), .val (.ref a_END), .val (.int (0 : Int32))] [(.int (1 : Int32))])
    refine own_retZ X42 hx hlk Bd.returns (by decide) (hb hby at_46) e42 (by decide) (by decide) ?_
    exact ⟨rfl, N42⟩
set_option maxRecDepth 65536 in
set_option maxHeartbeats 40000000 in
theorem comes_1 {Post : Tables → Env → Array Value → State → Outcome → State → Prop} (hpost : ∀ tb e args s v u, (limb_1_1.after args s (.returned v) u = true ∧ limb_1_2.after args s (.returned v) u = true ∧ True) → FrameEnd s (.returned v) u (Jvm.fieldLocs frame_1_writes args s ++ Jvm.arrayLocs frame_1_arrays args s ++ Jvm.staticLocs frame_1_statics s) 0 0 → Post tb e args s (.returned v) u) :
    ArmFor flags0 classFile x code maxLocals ret World_1 tables_1 room_1 Calls_1 rest_1 Pre_1 Post := by
  intro l hfl _ _ p e ha hc hk s m args below hf hA hF happ hP
  obtain ⟨hcalls, hrest, hpre⟩ := hP
  obtain ⟨-, -, -, hnamed, -, -, -, hat⟩ := (Spec.applies_iff hf).mp happ
  obtain ⟨hg, hn⟩ := and_e (Cond.before_iff.mp (show (Jvm.Cond.and given_1 narrow_1).before args s = true from hpre))
  obtain ⟨gc, gr0⟩ := and_e hg
  obtain ⟨w0, rfl⟩ : ∃ w0 : Value, args = #[w0] := by
    have hs : args.size = 1 := by simpa [Cond.value, given_1] using gc
    obtain ⟨L⟩ := args
    match L, hs with
    | [w0], _ => exact ⟨w0, rfl⟩
  have hw := fun d (hd : d ∈ tables_1) => atoms_spec (ws := Jvm.Cond.code x code maxLocals ret :: tables_1) hat d (List.mem_cons_of_mem _ hd)
  have hfit : Fit s := fun {y c} hc i hi => by
    obtain ⟨ha, rfl⟩ := Array.getElem?_eq_some_iff.mp hc
    have q := List.all_eq_true.mp ((Array.all_eq_true_iff_forall_mem.mp hF) _ (Array.getElem_mem ha)) i (List.mem_range.mpr hi)
    simpa [Array.getElem?_eq_getElem hi] using q
  obtain ⟨i0, ei0⟩ := is_v gr0
  obtain rfl : w0 = (.int i0) := Option.some.inj ei0
  obtain ⟨hN0, hR1⟩ := and_e hn
  obtain ⟨hN1, hR2⟩ := and_e hR1
  obtain ⟨hN2, hR3⟩ := and_e hR2
  obtain ⟨hN3, hR4⟩ := and_e hR3
  obtain ⟨hN4, hR5⟩ := and_e hR4
  obtain ⟨hN5, hR6⟩ := and_e hR5
  obtain ⟨hN6, hR7⟩ := and_e hR6
  obtain ⟨hN7, hR8⟩ := and_e hR7
  obtain ⟨hN8, hR9⟩ := and_e hR8
  obtain ⟨hN9, hR10⟩ := and_e hR9
  obtain ⟨hN10, hR11⟩ := and_e hR10
  obtain ⟨hN11, hR12⟩ := and_e hR11
  obtain ⟨hN12, hR13⟩ := and_e hR12
  obtain ⟨hN13, hR14⟩ := and_e hR13
  obtain ⟨hN14, hR15⟩ := and_e hR14
  obtain ⟨hN15, hR16⟩ := and_e hR15
  obtain ⟨hN16, hR17⟩ := and_e hR16
  obtain ⟨hN17, hR18⟩ := and_e hR17
  obtain ⟨hN18, hR19⟩ := and_e hR18
  obtain ⟨hN19, hR20⟩ := and_e hR19
  obtain ⟨hN20, hR21⟩ := and_e hR20
  obtain ⟨hN21, hR22⟩ := and_e hR21
  obtain ⟨hN22, hR23⟩ := and_e hR22
  obtain ⟨hN23, hR24⟩ := and_e hR23
  obtain ⟨hN24, hR25⟩ := and_e hR24
  obtain ⟨hN25, hR26⟩ := and_e hR25
  obtain ⟨hN26, hR27⟩ := and_e hR26
  obtain ⟨hN27, hR28⟩ := and_e hR27
  obtain ⟨hN28, hR29⟩ := and_e hR28
  obtain ⟨hN29, hR30⟩ := and_e hR29
  obtain ⟨hN30, hR31⟩ := and_e hR30
  obtain ⟨hN31, hR32⟩ := and_e hR31
  obtain ⟨hN32, hR33⟩ := and_e hR32
  obtain ⟨hN33, hR34⟩ := and_e hR33
  obtain ⟨hN34, hR35⟩ := and_e hR34
  obtain ⟨hN35, hR36⟩ := and_e hR35
  obtain ⟨hN36, hR37⟩ := and_e hR36
  obtain ⟨hN37, hR38⟩ := and_e hR37
  obtain ⟨hN38, hR39⟩ := and_e hR38
  obtain ⟨hN39, hR40⟩ := and_e hR39
  obtain ⟨hN40, hR41⟩ := and_e hR40
  have hN41 := hR41
  obtain ⟨a_NAME, ev_NAME⟩ := exa_v hN0
  have E_NAME : Exa s s.heap a_NAME "com/example/quelex/quelex/Lexeme$Kind" := Exa.start ev_NAME hN0
  have S_NAME : Sta s s.heap "com/example/quelex/quelex/Lexeme$Kind" "NAME" "Lcom/example/quelex/quelex/Lexeme$Kind;" (.ref a_NAME) := Sta.start ev_NAME (Or.inr ⟨(hw _ (List.mem_of_getElem? (i := 6) rfl)), (hw _ (List.mem_of_getElem? (i := 7) rfl))⟩)
  obtain ⟨a_INTEGER, ev_INTEGER⟩ := exa_v hN1
  have E_INTEGER : Exa s s.heap a_INTEGER "com/example/quelex/quelex/Lexeme$Kind" := Exa.start ev_INTEGER hN1
  have S_INTEGER : Sta s s.heap "com/example/quelex/quelex/Lexeme$Kind" "INTEGER" "Lcom/example/quelex/quelex/Lexeme$Kind;" (.ref a_INTEGER) := Sta.start ev_INTEGER (Or.inr ⟨(hw _ (List.mem_of_getElem? (i := 6) rfl)), (hw _ (List.mem_of_getElem? (i := 15) rfl))⟩)
  obtain ⟨a_URI_QUALIFIED_NAME, ev_URI_QUALIFIED_NAME⟩ := exa_v hN4
  have E_URI_QUALIFIED_NAME : Exa s s.heap a_URI_QUALIFIED_NAME "com/example/quelex/quelex/Lexeme$Kind" := Exa.start ev_URI_QUALIFIED_NAME hN4
  have S_URI_QUALIFIED_NAME : Sta s s.heap "com/example/quelex/quelex/Lexeme$Kind" "URI_QUALIFIED_NAME" "Lcom/example/quelex/quelex/Lexeme$Kind;" (.ref a_URI_QUALIFIED_NAME) := Sta.start ev_URI_QUALIFIED_NAME (Or.inr ⟨(hw _ (List.mem_of_getElem? (i := 6) rfl)), (hw _ (List.mem_of_getElem? (i := 17) rfl))⟩)
  obtain ⟨a_BRACED_URI_LITERAL, ev_BRACED_URI_LITERAL⟩ := exa_v hN6
  have E_BRACED_URI_LITERAL : Exa s s.heap a_BRACED_URI_LITERAL "com/example/quelex/quelex/Lexeme$Kind" := Exa.start ev_BRACED_URI_LITERAL hN6
  have S_BRACED_URI_LITERAL : Sta s s.heap "com/example/quelex/quelex/Lexeme$Kind" "BRACED_URI_LITERAL" "Lcom/example/quelex/quelex/Lexeme$Kind;" (.ref a_BRACED_URI_LITERAL) := Sta.start ev_BRACED_URI_LITERAL (Or.inr ⟨(hw _ (List.mem_of_getElem? (i := 6) rfl)), (hw _ (List.mem_of_getElem? (i := 19) rfl))⟩)
  obtain ⟨a_DOUBLE, ev_DOUBLE⟩ := exa_v hN8
  have E_DOUBLE : Exa s s.heap a_DOUBLE "com/example/quelex/quelex/Lexeme$Kind" := Exa.start ev_DOUBLE hN8
  have S_DOUBLE : Sta s s.heap "com/example/quelex/quelex/Lexeme$Kind" "DOUBLE" "Lcom/example/quelex/quelex/Lexeme$Kind;" (.ref a_DOUBLE) := Sta.start ev_DOUBLE (Or.inr ⟨(hw _ (List.mem_of_getElem? (i := 6) rfl)), (hw _ (List.mem_of_getElem? (i := 21) rfl))⟩)
  obtain ⟨a_QUOT_ATTR_CONTENT_CHAR, ev_QUOT_ATTR_CONTENT_CHAR⟩ := exa_v hN10
  have E_QUOT_ATTR_CONTENT_CHAR : Exa s s.heap a_QUOT_ATTR_CONTENT_CHAR "com/example/quelex/quelex/Lexeme$Kind" := Exa.start ev_QUOT_ATTR_CONTENT_CHAR hN10
  have S_QUOT_ATTR_CONTENT_CHAR : Sta s s.heap "com/example/quelex/quelex/Lexeme$Kind" "QUOT_ATTR_CONTENT_CHAR" "Lcom/example/quelex/quelex/Lexeme$Kind;" (.ref a_QUOT_ATTR_CONTENT_CHAR) := Sta.start ev_QUOT_ATTR_CONTENT_CHAR (Or.inr ⟨(hw _ (List.mem_of_getElem? (i := 6) rfl)), (hw _ (List.mem_of_getElem? (i := 23) rfl))⟩)
  obtain ⟨a_STRING, ev_STRING⟩ := exa_v hN12
  have E_STRING : Exa s s.heap a_STRING "com/example/quelex/quelex/Lexeme$Kind" := Exa.start ev_STRING hN12
  have S_STRING : Sta s s.heap "com/example/quelex/quelex/Lexeme$Kind" "STRING" "Lcom/example/quelex/quelex/Lexeme$Kind;" (.ref a_STRING) := Sta.start ev_STRING (Or.inr ⟨(hw _ (List.mem_of_getElem? (i := 6) rfl)), (hw _ (List.mem_of_getElem? (i := 25) rfl))⟩)
  obtain ⟨a_ESCAPE_APOS, ev_ESCAPE_APOS⟩ := exa_v hN14
  have E_ESCAPE_APOS : Exa s s.heap a_ESCAPE_APOS "com/example/quelex/quelex/Lexeme$Kind" := Exa.start ev_ESCAPE_APOS hN14
  have S_ESCAPE_APOS : Sta s s.heap "com/example/quelex/quelex/Lexeme$Kind" "ESCAPE_APOS" "Lcom/example/quelex/quelex/Lexeme$Kind;" (.ref a_ESCAPE_APOS) := Sta.start ev_ESCAPE_APOS (Or.inr ⟨(hw _ (List.mem_of_getElem? (i := 6) rfl)), (hw _ (List.mem_of_getElem? (i := 27) rfl))⟩)
  obtain ⟨a_SYMBOL, ev_SYMBOL⟩ := exa_v hN16
  have E_SYMBOL : Exa s s.heap a_SYMBOL "com/example/quelex/quelex/Lexeme$Kind" := Exa.start ev_SYMBOL hN16
  have S_SYMBOL : Sta s s.heap "com/example/quelex/quelex/Lexeme$Kind" "SYMBOL" "Lcom/example/quelex/quelex/Lexeme$Kind;" (.ref a_SYMBOL) := Sta.start ev_SYMBOL (Or.inr ⟨(hw _ (List.mem_of_getElem? (i := 6) rfl)), (hw _ (List.mem_of_getElem? (i := 29) rfl))⟩)
  obtain ⟨a_ESCAPE_QUOT, ev_ESCAPE_QUOT⟩ := exa_v hN18
  have E_ESCAPE_QUOT : Exa s s.heap a_ESCAPE_QUOT "com/example/quelex/quelex/Lexeme$Kind" := Exa.start ev_ESCAPE_QUOT hN18
  have S_ESCAPE_QUOT : Sta s s.heap "com/example/quelex/quelex/Lexeme$Kind" "ESCAPE_QUOT" "Lcom/example/quelex/quelex/Lexeme$Kind;" (.ref a_ESCAPE_QUOT) := Sta.start ev_ESCAPE_QUOT (Or.inr ⟨(hw _ (List.mem_of_getElem? (i := 6) rfl)), (hw _ (List.mem_of_getElem? (i := 32) rfl))⟩)
  obtain ⟨a_PREDEFINED_ENTITY_REF, ev_PREDEFINED_ENTITY_REF⟩ := exa_v hN20
  have E_PREDEFINED_ENTITY_REF : Exa s s.heap a_PREDEFINED_ENTITY_REF "com/example/quelex/quelex/Lexeme$Kind" := Exa.start ev_PREDEFINED_ENTITY_REF hN20
  have S_PREDEFINED_ENTITY_REF : Sta s s.heap "com/example/quelex/quelex/Lexeme$Kind" "PREDEFINED_ENTITY_REF" "Lcom/example/quelex/quelex/Lexeme$Kind;" (.ref a_PREDEFINED_ENTITY_REF) := Sta.start ev_PREDEFINED_ENTITY_REF (Or.inr ⟨(hw _ (List.mem_of_getElem? (i := 6) rfl)), (hw _ (List.mem_of_getElem? (i := 34) rfl))⟩)
  obtain ⟨a_APOS_ATTR_CONTENT_CHAR, ev_APOS_ATTR_CONTENT_CHAR⟩ := exa_v hN22
  have E_APOS_ATTR_CONTENT_CHAR : Exa s s.heap a_APOS_ATTR_CONTENT_CHAR "com/example/quelex/quelex/Lexeme$Kind" := Exa.start ev_APOS_ATTR_CONTENT_CHAR hN22
  have S_APOS_ATTR_CONTENT_CHAR : Sta s s.heap "com/example/quelex/quelex/Lexeme$Kind" "APOS_ATTR_CONTENT_CHAR" "Lcom/example/quelex/quelex/Lexeme$Kind;" (.ref a_APOS_ATTR_CONTENT_CHAR) := Sta.start ev_APOS_ATTR_CONTENT_CHAR (Or.inr ⟨(hw _ (List.mem_of_getElem? (i := 6) rfl)), (hw _ (List.mem_of_getElem? (i := 37) rfl))⟩)
  obtain ⟨a_DIR_COMMENT_CONTENTS, ev_DIR_COMMENT_CONTENTS⟩ := exa_v hN24
  have E_DIR_COMMENT_CONTENTS : Exa s s.heap a_DIR_COMMENT_CONTENTS "com/example/quelex/quelex/Lexeme$Kind" := Exa.start ev_DIR_COMMENT_CONTENTS hN24
  have S_DIR_COMMENT_CONTENTS : Sta s s.heap "com/example/quelex/quelex/Lexeme$Kind" "DIR_COMMENT_CONTENTS" "Lcom/example/quelex/quelex/Lexeme$Kind;" (.ref a_DIR_COMMENT_CONTENTS) := Sta.start ev_DIR_COMMENT_CONTENTS (Or.inr ⟨(hw _ (List.mem_of_getElem? (i := 6) rfl)), (hw _ (List.mem_of_getElem? (i := 39) rfl))⟩)
  obtain ⟨a_CHAR_REF, ev_CHAR_REF⟩ := exa_v hN26
  have E_CHAR_REF : Exa s s.heap a_CHAR_REF "com/example/quelex/quelex/Lexeme$Kind" := Exa.start ev_CHAR_REF hN26
  have S_CHAR_REF : Sta s s.heap "com/example/quelex/quelex/Lexeme$Kind" "CHAR_REF" "Lcom/example/quelex/quelex/Lexeme$Kind;" (.ref a_CHAR_REF) := Sta.start ev_CHAR_REF (Or.inr ⟨(hw _ (List.mem_of_getElem? (i := 6) rfl)), (hw _ (List.mem_of_getElem? (i := 41) rfl))⟩)
  obtain ⟨a_STRING_CONSTRUCTOR_CHARS, ev_STRING_CONSTRUCTOR_CHARS⟩ := exa_v hN28
  have E_STRING_CONSTRUCTOR_CHARS : Exa s s.heap a_STRING_CONSTRUCTOR_CHARS "com/example/quelex/quelex/Lexeme$Kind" := Exa.start ev_STRING_CONSTRUCTOR_CHARS hN28
  have S_STRING_CONSTRUCTOR_CHARS : Sta s s.heap "com/example/quelex/quelex/Lexeme$Kind" "STRING_CONSTRUCTOR_CHARS" "Lcom/example/quelex/quelex/Lexeme$Kind;" (.ref a_STRING_CONSTRUCTOR_CHARS) := Sta.start ev_STRING_CONSTRUCTOR_CHARS (Or.inr ⟨(hw _ (List.mem_of_getElem? (i := 6) rfl)), (hw _ (List.mem_of_getElem? (i := 43) rfl))⟩)
  obtain ⟨a_DIR_PI_CONTENTS, ev_DIR_PI_CONTENTS⟩ := exa_v hN30
  have E_DIR_PI_CONTENTS : Exa s s.heap a_DIR_PI_CONTENTS "com/example/quelex/quelex/Lexeme$Kind" := Exa.start ev_DIR_PI_CONTENTS hN30
  have S_DIR_PI_CONTENTS : Sta s s.heap "com/example/quelex/quelex/Lexeme$Kind" "DIR_PI_CONTENTS" "Lcom/example/quelex/quelex/Lexeme$Kind;" (.ref a_DIR_PI_CONTENTS) := Sta.start ev_DIR_PI_CONTENTS (Or.inr ⟨(hw _ (List.mem_of_getElem? (i := 6) rfl)), (hw _ (List.mem_of_getElem? (i := 45) rfl))⟩)
  obtain ⟨a_CDATA_SECTION_CONTENTS, ev_CDATA_SECTION_CONTENTS⟩ := exa_v hN32
  have E_CDATA_SECTION_CONTENTS : Exa s s.heap a_CDATA_SECTION_CONTENTS "com/example/quelex/quelex/Lexeme$Kind" := Exa.start ev_CDATA_SECTION_CONTENTS hN32
  have S_CDATA_SECTION_CONTENTS : Sta s s.heap "com/example/quelex/quelex/Lexeme$Kind" "CDATA_SECTION_CONTENTS" "Lcom/example/quelex/quelex/Lexeme$Kind;" (.ref a_CDATA_SECTION_CONTENTS) := Sta.start ev_CDATA_SECTION_CONTENTS (Or.inr ⟨(hw _ (List.mem_of_getElem? (i := 6) rfl)), (hw _ (List.mem_of_getElem? (i := 47) rfl))⟩)
  obtain ⟨a_END, ev_END⟩ := exa_v hN34
  have E_END : Exa s s.heap a_END "com/example/quelex/quelex/Lexeme$Kind" := Exa.start ev_END hN34
  have S_END : Sta s s.heap "com/example/quelex/quelex/Lexeme$Kind" "END" "Lcom/example/quelex/quelex/Lexeme$Kind;" (.ref a_END) := Sta.start ev_END (Or.inr ⟨(hw _ (List.mem_of_getElem? (i := 6) rfl)), (hw _ (List.mem_of_getElem? (i := 49) rfl))⟩)
  obtain ⟨a_DECIMAL, ev_DECIMAL⟩ := exa_v hN36
  have E_DECIMAL : Exa s s.heap a_DECIMAL "com/example/quelex/quelex/Lexeme$Kind" := Exa.start ev_DECIMAL hN36
  have S_DECIMAL : Sta s s.heap "com/example/quelex/quelex/Lexeme$Kind" "DECIMAL" "Lcom/example/quelex/quelex/Lexeme$Kind;" (.ref a_DECIMAL) := Sta.start ev_DECIMAL (Or.inr ⟨(hw _ (List.mem_of_getElem? (i := 6) rfl)), (hw _ (List.mem_of_getElem? (i := 51) rfl))⟩)
  obtain ⟨a_ELEMENT_CONTENT_CHAR, ev_ELEMENT_CONTENT_CHAR⟩ := exa_v hN38
  have E_ELEMENT_CONTENT_CHAR : Exa s s.heap a_ELEMENT_CONTENT_CHAR "com/example/quelex/quelex/Lexeme$Kind" := Exa.start ev_ELEMENT_CONTENT_CHAR hN38
  have S_ELEMENT_CONTENT_CHAR : Sta s s.heap "com/example/quelex/quelex/Lexeme$Kind" "ELEMENT_CONTENT_CHAR" "Lcom/example/quelex/quelex/Lexeme$Kind;" (.ref a_ELEMENT_CONTENT_CHAR) := Sta.start ev_ELEMENT_CONTENT_CHAR (Or.inr ⟨(hw _ (List.mem_of_getElem? (i := 6) rfl)), (hw _ (List.mem_of_getElem? (i := 53) rfl))⟩)
  obtain ⟨a_PRAGMA_CONTENTS, ev_PRAGMA_CONTENTS⟩ := exa_v hN40
  have E_PRAGMA_CONTENTS : Exa s s.heap a_PRAGMA_CONTENTS "com/example/quelex/quelex/Lexeme$Kind" := Exa.start ev_PRAGMA_CONTENTS hN40
  have S_PRAGMA_CONTENTS : Sta s s.heap "com/example/quelex/quelex/Lexeme$Kind" "PRAGMA_CONTENTS" "Lcom/example/quelex/quelex/Lexeme$Kind;" (.ref a_PRAGMA_CONTENTS) := Sta.start ev_PRAGMA_CONTENTS (Or.inr ⟨(hw _ (List.mem_of_getElem? (i := 6) rfl)), (hw _ (List.mem_of_getElem? (i := 55) rfl))⟩)
  have F_ordinal_INTEGER : Fld s s.heap a_INTEGER "java/lang/Enum" "ordinal" "I" (.int (3 : Int32)) := own_enumF ev_INTEGER hN2
  have F_ordinal_NAME : Fld s s.heap a_NAME "java/lang/Enum" "ordinal" "I" (.int (0 : Int32)) := own_enumF ev_NAME hN3
  have F_ordinal_URI_QUALIFIED_NAME : Fld s s.heap a_URI_QUALIFIED_NAME "java/lang/Enum" "ordinal" "I" (.int (1 : Int32)) := own_enumF ev_URI_QUALIFIED_NAME hN5
  have F_ordinal_BRACED_URI_LITERAL : Fld s s.heap a_BRACED_URI_LITERAL "java/lang/Enum" "ordinal" "I" (.int (2 : Int32)) := own_enumF ev_BRACED_URI_LITERAL hN7
  have F_ordinal_DOUBLE : Fld s s.heap a_DOUBLE "java/lang/Enum" "ordinal" "I" (.int (5 : Int32)) := own_enumF ev_DOUBLE hN9
  have F_ordinal_QUOT_ATTR_CONTENT_CHAR : Fld s s.heap a_QUOT_ATTR_CONTENT_CHAR "java/lang/Enum" "ordinal" "I" (.int (13 : Int32)) := own_enumF ev_QUOT_ATTR_CONTENT_CHAR hN11
  have F_ordinal_STRING : Fld s s.heap a_STRING "java/lang/Enum" "ordinal" "I" (.int (6 : Int32)) := own_enumF ev_STRING hN13
  have F_ordinal_ESCAPE_APOS : Fld s s.heap a_ESCAPE_APOS "java/lang/Enum" "ordinal" "I" (.int (11 : Int32)) := own_enumF ev_ESCAPE_APOS hN15
  have F_ordinal_SYMBOL : Fld s s.heap a_SYMBOL "java/lang/Enum" "ordinal" "I" (.int (7 : Int32)) := own_enumF ev_SYMBOL hN17
  have F_ordinal_ESCAPE_QUOT : Fld s s.heap a_ESCAPE_QUOT "java/lang/Enum" "ordinal" "I" (.int (10 : Int32)) := own_enumF ev_ESCAPE_QUOT hN19
  have F_ordinal_PREDEFINED_ENTITY_REF : Fld s s.heap a_PREDEFINED_ENTITY_REF "java/lang/Enum" "ordinal" "I" (.int (8 : Int32)) := own_enumF ev_PREDEFINED_ENTITY_REF hN21
  have F_ordinal_APOS_ATTR_CONTENT_CHAR : Fld s s.heap a_APOS_ATTR_CONTENT_CHAR "java/lang/Enum" "ordinal" "I" (.int (14 : Int32)) := own_enumF ev_APOS_ATTR_CONTENT_CHAR hN23
  have F_ordinal_DIR_COMMENT_CONTENTS : Fld s s.heap a_DIR_COMMENT_CONTENTS "java/lang/Enum" "ordinal" "I" (.int (15 : Int32)) := own_enumF ev_DIR_COMMENT_CONTENTS hN25
  have F_ordinal_CHAR_REF : Fld s s.heap a_CHAR_REF "java/lang/Enum" "ordinal" "I" (.int (9 : Int32)) := own_enumF ev_CHAR_REF hN27
  have F_ordinal_STRING_CONSTRUCTOR_CHARS : Fld s s.heap a_STRING_CONSTRUCTOR_CHARS "java/lang/Enum" "ordinal" "I" (.int (19 : Int32)) := own_enumF ev_STRING_CONSTRUCTOR_CHARS hN29
  have F_ordinal_DIR_PI_CONTENTS : Fld s s.heap a_DIR_PI_CONTENTS "java/lang/Enum" "ordinal" "I" (.int (16 : Int32)) := own_enumF ev_DIR_PI_CONTENTS hN31
  have F_ordinal_CDATA_SECTION_CONTENTS : Fld s s.heap a_CDATA_SECTION_CONTENTS "java/lang/Enum" "ordinal" "I" (.int (17 : Int32)) := own_enumF ev_CDATA_SECTION_CONTENTS hN33
  have F_ordinal_END : Fld s s.heap a_END "java/lang/Enum" "ordinal" "I" (.int (20 : Int32)) := own_enumF ev_END hN35
  have F_ordinal_DECIMAL : Fld s s.heap a_DECIMAL "java/lang/Enum" "ordinal" "I" (.int (4 : Int32)) := own_enumF ev_DECIMAL hN37
  have F_ordinal_ELEMENT_CONTENT_CHAR : Fld s s.heap a_ELEMENT_CONTENT_CHAR "java/lang/Enum" "ordinal" "I" (.int (12 : Int32)) := own_enumF ev_ELEMENT_CONTENT_CHAR hN39
  have F_ordinal_PRAGMA_CONTENTS : Fld s s.heap a_PRAGMA_CONTENTS "java/lang/Enum" "ordinal" "I" (.int (18 : Int32)) := own_enumF ev_PRAGMA_CONTENTS hN41
  obtain ⟨n, o, h1, h2, h3, _, L, rfl, ⟨rfl, N⟩, hq⟩ := rm0 l s _ hw tables_1 i0 a_NAME a_URI_QUALIFIED_NAME a_BRACED_URI_LITERAL a_INTEGER a_DECIMAL a_DOUBLE a_STRING a_SYMBOL a_PREDEFINED_ENTITY_REF a_CHAR_REF a_ESCAPE_QUOT a_ESCAPE_APOS a_ELEMENT_CONTENT_CHAR a_QUOT_ATTR_CONTENT_CHAR a_APOS_ATTR_CONTENT_CHAR a_DIR_COMMENT_CONTENTS a_DIR_PI_CONTENTS a_CDATA_SECTION_CONTENTS a_PRAGMA_CONTENTS a_STRING_CONSTRUCTOR_CHARS a_END s.heap s.heap.size (Nat.le_refl _) S_NAME S_URI_QUALIFIED_NAME S_BRACED_URI_LITERAL S_INTEGER S_DECIMAL S_DOUBLE S_STRING S_SYMBOL S_PREDEFINED_ENTITY_REF S_CHAR_REF S_ESCAPE_QUOT S_ESCAPE_APOS S_ELEMENT_CONTENT_CHAR S_QUOT_ATTR_CONTENT_CHAR S_APOS_ATTR_CONTENT_CHAR S_DIR_COMMENT_CONTENTS S_DIR_PI_CONTENTS S_CDATA_SECTION_CONTENTS S_PRAGMA_CONTENTS S_STRING_CONSTRUCTOR_CHARS S_END E_NAME E_URI_QUALIFIED_NAME E_BRACED_URI_LITERAL E_INTEGER E_DECIMAL E_DOUBLE E_STRING E_SYMBOL E_PREDEFINED_ENTITY_REF E_CHAR_REF E_ESCAPE_QUOT E_ESCAPE_APOS E_ELEMENT_CONTENT_CHAR E_QUOT_ATTR_CONTENT_CHAR E_APOS_ATTR_CONTENT_CHAR E_DIR_COMMENT_CONTENTS E_DIR_PI_CONTENTS E_CDATA_SECTION_CONTENTS E_PRAGMA_CONTENTS E_STRING_CONSTRUCTOR_CHARS E_END F_ordinal_NAME F_ordinal_URI_QUALIFIED_NAME F_ordinal_BRACED_URI_LITERAL F_ordinal_INTEGER F_ordinal_DECIMAL F_ordinal_DOUBLE F_ordinal_STRING F_ordinal_SYMBOL F_ordinal_PREDEFINED_ENTITY_REF F_ordinal_CHAR_REF F_ordinal_ESCAPE_QUOT F_ordinal_ESCAPE_APOS F_ordinal_ELEMENT_CONTENT_CHAR F_ordinal_QUOT_ATTR_CONTENT_CHAR F_ordinal_APOS_ATTR_CONTENT_CHAR F_ordinal_DIR_COMMENT_CONTENTS F_ordinal_DIR_PI_CONTENTS F_ordinal_CDATA_SECTION_CONTENTS F_ordinal_PRAGMA_CONTENTS F_ordinal_STRING_CONSTRUCTOR_CHARS F_ordinal_END p e ha hc hk s m _ below hf ((Spec.applies_iff_loose hf).mp happ).1 ⟨rfl, State.Warmed39.refl s, rfl⟩ trivial
  refine ⟨n, _, h1, h2, h3, hpost _ _ _ _ _ _ ⟨Cond.after_iff.mpr rfl, Cond.after_iff.mpr (eq_i res_at (Term.int_eval (1)) rfl), trivial⟩ ⟨hq.1, hq.2.1, (hq.2.2.sift fun y hy => Or.inr (N y hy)).mono (by decide) (by decide)⟩⟩
theorem main_1_1 : Claimed_1_1 := comes_1 fun _ _ _ _ _ _ h hF => ⟨h.1, hF⟩
theorem main_1_2 : Claimed_1_2 := comes_1 fun _ _ _ _ _ _ h hF => ⟨h.2.1, hF⟩
end Jvm.Pilot.@@N@@
namespace Jvm.Pilot.@@N@@
open Jvm Jvm.ClassFile Sem Op Lib Jvm.Free Jvm.Stand Jvm.Pilot.@@N@@.Jvm.D
/-! MADE BY PROGRAM (witnessworld.py) out of the Statement's table words and the real class files: 12 classes; the members and pool entries that the words name. The judged class is class 1, her method 2. -/
namespace start1
open Jvm.ClassFile
def u (s : String) : CpInfo := .utf8 (stringToUtf16 s)
/-- a pool by its gaps: so many unusable entries, then the entry; so many at the end -/
def gap : Nat → List CpInfo → List CpInfo
  | 0, r => r
  | n + 1, r => .unusable :: gap n r
def poolList (es : List (Nat × CpInfo)) (last : Nat) : List CpInfo := es.foldr (fun e r => gap e.1 (e.2 :: r)) (gap last [])
def pool (es : List (Nat × CpInfo)) (last : Nat) : Array CpInfo := ⟨poolList es last⟩
def fileOf (pool : Array CpInfo) (this : Nat) (attrs : Array Attribute := #[]) (ms : Array MethodInfo := #[]) (fl : Nat := 33) (sup : Nat := 0) (ifs : Array Nat := #[]) (fds : Array FieldInfo := #[]) : ClassFile where
  minorVersion := 0
  majorVersion := 65
  constantPool := pool
  accessFlags := fl
  thisClass := this
  superClass := sup
  interfaces := ifs
  fields := fds
  methods := ms
  attributes := attrs
def plain (name : String) (sup : Option ClassId) : Class where
  name := name
  kind := .ordinary
  loader := none
  accessFlags := 33
  super := sup
  interfaces := #[]
  cf := none
  fields := #[]
  methods := #[]
  instanceTypes := #[]
  staticTypes := #[]
  resolved := #[]
  callSites := []
  init := .initialized
  statics := none
  mirror := none

def pool0 : Array CpInfo := pool [(5, u "<init>"), (0, u "()V"), (1, .class_ 10), (1, u "java/lang/Object")] 113

def k0m0 : Method := { name := "<init>", desc := "()V", sig := { parameters := [], returnType := none }, accessFlags := 1, code := none }
/-- java/lang/Object -/
def k0 : Class := { plain "java/lang/Object" none with
  accessFlags := 33
  interfaces := #[]
  cf := some (fileOf pool0 8 #[] #[{ accessFlags := 1, nameIndex := 5, descriptorIndex := 6, attributes := #[] }] 33 0 #[] #[])
  fields := #[]
  methods := #[k0m0]
  instanceTypes := #[]
  staticTypes := #[]
  resolved := Array.replicate 124 none
  statics := none }

def pool1 : Array CpInfo := pool [(2, .class_ 4), (1, u "java/lang/Object"), (0, u "<init>"), (0, u "()V"), (0, .fieldref 8 9), (0, .class_ 10), (0, .nameAndType 11 12), (0, u "com/example/quelex/quelex/Lexeme$Kind"), (0, u "NAME"), (0, u "Lcom/example/quelex/quelex/Lexeme$Kind;"), (0, .fieldref 8 14), (0, .nameAndType 15 12), (0, u "URI_QUALIFIED_NAME"), (0, .fieldref 8 17), (0, .nameAndType 18 12), (0, u "BRACED_URI_LITERAL"), (0, .fieldref 8 20), (0, .nameAndType 21 12), (0, u "INTEGER"), (0, .fieldref 8 23), (0, .nameAndType 24 12), (0, u "DECIMAL"), (0, .fieldref 8 26), (0, .nameAndType 27 12), (0, u "DOUBLE"), (0, .fieldref 8 29), (0, .nameAndType 30 12), (0, u "STRING"), (0, .fieldref 8 32), (0, .nameAndType 33 12), (0, u "SYMBOL"), (0, .fieldref 8 35), (0, .nameAndType 36 12), (0, u "PREDEFINED_ENTITY_REF"), (0, .fieldref 8 38), (0, .nameAndType 39 12), (0, u "CHAR_REF"), (0, .fieldref 8 41), (0, .nameAndType 42 12), (0, u "ESCAPE_QUOT"), (0, .fieldref 8 44), (0, .nameAndType 45 12), (0, u "ESCAPE_APOS"), (0, .fieldref 8 47), (0, .nameAndType 48 12), (0, u "ELEMENT_CONTENT_CHAR"), (0, .fieldref 8 50), (0, .nameAndType 51 12), (0, u "QUOT_ATTR_CONTENT_CHAR"), (0, .fieldref 8 53), (0, .nameAndType 54 12), (0, u "APOS_ATTR_CONTENT_CHAR"), (0, .fieldref 8 56), (0, .nameAndType 57 12), (0, u "DIR_COMMENT_CONTENTS"), (0, .fieldref 8 59), (0, .nameAndType 60 12), (0, u "DIR_PI_CONTENTS"), (0, .fieldref 8 62), (0, .nameAndType 63 12), (0, u "CDATA_SECTION_CONTENTS"), (0, .fieldref 8 65), (0, .nameAndType 66 12), (0, u "PRAGMA_CONTENTS"), (0, .fieldref 8 68), (0, .nameAndType 69 12), (0, u "STRING_CONSTRUCTOR_CHARS"), (0, .fieldref 8 71), (0, .nameAndType 72 12), (0, u "END"), (0, .integer 2147483647), (0, .methodref 75 76), (0, .class_ 77), (0, .nameAndType 78 79), (0, u "com/example/quelex/quelex/KindStartsAsNamePinLaw"), (0, u "kindAt"), (0, u "(I)Lcom/example/quelex/quelex/Lexeme$Kind;"), (0, .methodref 8 81), (0, .nameAndType 82 83), (0, u "startsAsName"), (0, u "()Z"), (3, u "law"), (0, u "(I)Z")] 6

def k1m0 : Method := { name := "<init>", desc := "()V", sig := { parameters := [], returnType := none }, accessFlags := 2, code := none }
def k1c1 : Code := { maxStack := 1, maxLocals := 1, code := method_2_code, exceptionTable := #[], attributes := #[] }
def k1m1 : Method := { name := "kindAt", desc := "(I)Lcom/example/quelex/quelex/Lexeme$Kind;", sig := { parameters := [.int], returnType := some (.object "com/example/quelex/quelex/Lexeme$Kind") }, accessFlags := 10, code := some k1c1 }
def k1c2 : Code := { maxStack := 2, maxLocals := 4, code := code, exceptionTable := #[], attributes := #[] }
def k1m2 : Method := { name := "law", desc := "(I)Z", sig := { parameters := [.int], returnType := some .boolean }, accessFlags := 9, code := some k1c2 }
/-- com/example/quelex/quelex/KindStartsAsNamePinLaw -/
def k1 : Class := { plain "com/example/quelex/quelex/KindStartsAsNamePinLaw" (some 0) with
  accessFlags := 49
  interfaces := #[]
  cf := some (fileOf pool1 75 #[] #[{ accessFlags := 2, nameIndex := 5, descriptorIndex := 6, attributes := #[] }, { accessFlags := 10, nameIndex := 78, descriptorIndex := 79, attributes := #[] }, { accessFlags := 9, nameIndex := 87, descriptorIndex := 88, attributes := #[] }] 49 2 #[] #[])
  fields := #[]
  methods := #[k1m0, k1m1, k1m2]
  instanceTypes := #[]
  staticTypes := #[]
  resolved := Array.replicate 95 none
  statics := none }

def pool2 : Array CpInfo := pool [(1, .class_ 2), (0, u "java/lang/constant/Constable"), (0, .class_ 4), (0, u "java/lang/Object")] 6

/-- java/lang/constant/Constable -/
def k2 : Class := { plain "java/lang/constant/Constable" (some 0) with
  accessFlags := 1537
  interfaces := #[]
  cf := some (fileOf pool2 1 #[] #[] 1537 3 #[] #[])
  fields := #[]
  methods := #[]
  instanceTypes := #[]
  staticTypes := #[]
  resolved := Array.replicate 11 none
  statics := none }

def pool3 : Array CpInfo := pool [(1, .class_ 2), (0, u "java/lang/Comparable"), (0, .class_ 4), (0, u "java/lang/Object")] 7

/-- java/lang/Comparable -/
def k3 : Class := { plain "java/lang/Comparable" (some 0) with
  accessFlags := 1537
  interfaces := #[]
  cf := some (fileOf pool3 1 #[] #[] 1537 3 #[] #[])
  fields := #[]
  methods := #[]
  instanceTypes := #[]
  staticTypes := #[]
  resolved := Array.replicate 12 none
  statics := none }

def pool4 : Array CpInfo := pool [(1, .class_ 2), (0, u "java/io/Serializable"), (0, .class_ 4), (0, u "java/lang/Object")] 2

/-- java/io/Serializable -/
def k4 : Class := { plain "java/io/Serializable" (some 0) with
  accessFlags := 1537
  interfaces := #[]
  cf := some (fileOf pool4 1 #[] #[] 1537 3 #[] #[])
  fields := #[]
  methods := #[]
  instanceTypes := #[]
  staticTypes := #[]
  resolved := Array.replicate 7 none
  statics := none }

def pool5 : Array CpInfo := pool [(2, .class_ 4), (1, u "java/lang/Enum"), (0, u "name"), (0, u "Ljava/lang/String;"), (2, u "ordinal"), (0, u "I"), (1, .class_ 14), (1, u "java/lang/Object"), (4, u "hash"), (86, .class_ 108), (1, u "java/lang/Enum$EnumDesc"), (2, .class_ 112), (0, u "java/lang/constant/Constable"), (0, .class_ 114), (0, u "java/lang/Comparable"), (0, .class_ 116), (0, u "java/io/Serializable")] 87

/-- java/lang/Enum -/
def k5 : Class := { plain "java/lang/Enum" (some 0) with
  accessFlags := 1057
  interfaces := #[2, 3, 4]
  cf := some (fileOf pool5 2 #[.nestMembers #[106]] #[] 1057 12 #[111, 113, 115] #[{ accessFlags := 18, nameIndex := 5, descriptorIndex := 6, attributes := #[] }, { accessFlags := 18, nameIndex := 9, descriptorIndex := 10, attributes := #[] }, { accessFlags := 2, nameIndex := 19, descriptorIndex := 10, attributes := #[] }])
  fields := #[{ name := "name", type := (.object "java/lang/String"), accessFlags := 18, slot := 0, constantValue := 0 }, { name := "ordinal", type := .int, accessFlags := 18, slot := 1, constantValue := 0 }, { name := "hash", type := .int, accessFlags := 2, slot := 2, constantValue := 0 }]
  methods := #[]
  instanceTypes := #[(.object "java/lang/String"), .int, .int]
  staticTypes := #[]
  resolved := Array.replicate 204 none
  statics := none }

def pool6 : Array CpInfo := pool [(1, .class_ 2), (0, u "com/example/quelex/quelex/Lexeme$Kind"), (0, .fieldref 1 4), (0, .nameAndType 5 6), (0, u "NAME"), (0, u "Lcom/example/quelex/quelex/Lexeme$Kind;"), (0, .fieldref 1 8), (0, .nameAndType 9 6), (0, u "URI_QUALIFIED_NAME"), (0, .fieldref 1 11), (0, .nameAndType 12 6), (0, u "BRACED_URI_LITERAL"), (2, u "INTEGER"), (2, u "DECIMAL"), (2, u "DOUBLE"), (2, u "STRING"), (2, u "SYMBOL"), (2, u "PREDEFINED_ENTITY_REF"), (2, u "CHAR_REF"), (2, u "ESCAPE_QUOT"), (2, u "ESCAPE_APOS"), (2, u "ELEMENT_CONTENT_CHAR"), (2, u "QUOT_ATTR_CONTENT_CHAR"), (2, u "APOS_ATTR_CONTENT_CHAR"), (2, u "DIR_COMMENT_CONTENTS"), (2, u "DIR_PI_CONTENTS"), (2, u "CDATA_SECTION_CONTENTS"), (2, u "PRAGMA_CONTENTS"), (2, u "STRING_CONSTRUCTOR_CHARS"), (2, u "END"), (2, u "$VALUES"), (0, u "[Lcom/example/quelex/quelex/Lexeme$Kind;"), (6, .class_ 79), (1, u "java/lang/Enum"), (8, u "tokenKind"), (0, u "Lcom/example/quelex/quelex/TokenKind;"), (84, u "()Z"), (1, u "startsAsName"), (6, .class_ 184), (0, u "com/example/quelex/quelex/Lexeme")] 2

def k6c0 : Code := { maxStack := 2, maxLocals := 1, code := prog_34_method_6_code, exceptionTable := #[], attributes := #[] }
def k6m0 : Method := { name := "startsAsName", desc := "()Z", sig := { parameters := [], returnType := some .boolean }, accessFlags := 0, code := some k6c0 }
/-- com/example/quelex/quelex/Lexeme$Kind -/
def k6 : Class := { plain "com/example/quelex/quelex/Lexeme$Kind" (some 5) with
  accessFlags := 16432
  interfaces := #[]
  cf := some (fileOf pool6 1 #[.nestHost 183] #[{ accessFlags := 0, nameIndex := 176, descriptorIndex := 174, attributes := #[] }] 16432 77 #[] #[{ accessFlags := 16409, nameIndex := 5, descriptorIndex := 6, attributes := #[] }, { accessFlags := 16409, nameIndex := 9, descriptorIndex := 6, attributes := #[] }, { accessFlags := 16409, nameIndex := 12, descriptorIndex := 6, attributes := #[] }, { accessFlags := 16409, nameIndex := 15, descriptorIndex := 6, attributes := #[] }, { accessFlags := 16409, nameIndex := 18, descriptorIndex := 6, attributes := #[] }, { accessFlags := 16409, nameIndex := 21, descriptorIndex := 6, attributes := #[] }, { accessFlags := 16409, nameIndex := 24, descriptorIndex := 6, attributes := #[] }, { accessFlags := 16409, nameIndex := 27, descriptorIndex := 6, attributes := #[] }, { accessFlags := 16409, nameIndex := 30, descriptorIndex := 6, attributes := #[] }, { accessFlags := 16409, nameIndex := 33, descriptorIndex := 6, attributes := #[] }, { accessFlags := 16409, nameIndex := 36, descriptorIndex := 6, attributes := #[] }, { accessFlags := 16409, nameIndex := 39, descriptorIndex := 6, attributes := #[] }, { accessFlags := 16409, nameIndex := 42, descriptorIndex := 6, attributes := #[] }, { accessFlags := 16409, nameIndex := 45, descriptorIndex := 6, attributes := #[] }, { accessFlags := 16409, nameIndex := 48, descriptorIndex := 6, attributes := #[] }, { accessFlags := 16409, nameIndex := 51, descriptorIndex := 6, attributes := #[] }, { accessFlags := 16409, nameIndex := 54, descriptorIndex := 6, attributes := #[] }, { accessFlags := 16409, nameIndex := 57, descriptorIndex := 6, attributes := #[] }, { accessFlags := 16409, nameIndex := 60, descriptorIndex := 6, attributes := #[] }, { accessFlags := 16409, nameIndex := 63, descriptorIndex := 6, attributes := #[] }, { accessFlags := 16409, nameIndex := 66, descriptorIndex := 6, attributes := #[] }, { accessFlags := 18, nameIndex := 88, descriptorIndex := 89, attributes := #[] }, { accessFlags := 4122, nameIndex := 69, descriptorIndex := 70, attributes := #[] }])
  fields := #[{ name := "NAME", type := (.object "com/example/quelex/quelex/Lexeme$Kind"), accessFlags := 16409, slot := 0, constantValue := 0 }, { name := "URI_QUALIFIED_NAME", type := (.object "com/example/quelex/quelex/Lexeme$Kind"), accessFlags := 16409, slot := 1, constantValue := 0 }, { name := "BRACED_URI_LITERAL", type := (.object "com/example/quelex/quelex/Lexeme$Kind"), accessFlags := 16409, slot := 2, constantValue := 0 }, { name := "INTEGER", type := (.object "com/example/quelex/quelex/Lexeme$Kind"), accessFlags := 16409, slot := 3, constantValue := 0 }, { name := "DECIMAL", type := (.object "com/example/quelex/quelex/Lexeme$Kind"), accessFlags := 16409, slot := 4, constantValue := 0 }, { name := "DOUBLE", type := (.object "com/example/quelex/quelex/Lexeme$Kind"), accessFlags := 16409, slot := 5, constantValue := 0 }, { name := "STRING", type := (.object "com/example/quelex/quelex/Lexeme$Kind"), accessFlags := 16409, slot := 6, constantValue := 0 }, { name := "SYMBOL", type := (.object "com/example/quelex/quelex/Lexeme$Kind"), accessFlags := 16409, slot := 7, constantValue := 0 }, { name := "PREDEFINED_ENTITY_REF", type := (.object "com/example/quelex/quelex/Lexeme$Kind"), accessFlags := 16409, slot := 8, constantValue := 0 }, { name := "CHAR_REF", type := (.object "com/example/quelex/quelex/Lexeme$Kind"), accessFlags := 16409, slot := 9, constantValue := 0 }, { name := "ESCAPE_QUOT", type := (.object "com/example/quelex/quelex/Lexeme$Kind"), accessFlags := 16409, slot := 10, constantValue := 0 }, { name := "ESCAPE_APOS", type := (.object "com/example/quelex/quelex/Lexeme$Kind"), accessFlags := 16409, slot := 11, constantValue := 0 }, { name := "ELEMENT_CONTENT_CHAR", type := (.object "com/example/quelex/quelex/Lexeme$Kind"), accessFlags := 16409, slot := 12, constantValue := 0 }, { name := "QUOT_ATTR_CONTENT_CHAR", type := (.object "com/example/quelex/quelex/Lexeme$Kind"), accessFlags := 16409, slot := 13, constantValue := 0 }, { name := "APOS_ATTR_CONTENT_CHAR", type := (.object "com/example/quelex/quelex/Lexeme$Kind"), accessFlags := 16409, slot := 14, constantValue := 0 }, { name := "DIR_COMMENT_CONTENTS", type := (.object "com/example/quelex/quelex/Lexeme$Kind"), accessFlags := 16409, slot := 15, constantValue := 0 }, { name := "DIR_PI_CONTENTS", type := (.object "com/example/quelex/quelex/Lexeme$Kind"), accessFlags := 16409, slot := 16, constantValue := 0 }, { name := "CDATA_SECTION_CONTENTS", type := (.object "com/example/quelex/quelex/Lexeme$Kind"), accessFlags := 16409, slot := 17, constantValue := 0 }, { name := "PRAGMA_CONTENTS", type := (.object "com/example/quelex/quelex/Lexeme$Kind"), accessFlags := 16409, slot := 18, constantValue := 0 }, { name := "STRING_CONSTRUCTOR_CHARS", type := (.object "com/example/quelex/quelex/Lexeme$Kind"), accessFlags := 16409, slot := 19, constantValue := 0 }, { name := "END", type := (.object "com/example/quelex/quelex/Lexeme$Kind"), accessFlags := 16409, slot := 20, constantValue := 0 }, { name := "tokenKind", type := (.object "com/example/quelex/quelex/TokenKind"), accessFlags := 18, slot := 3, constantValue := 0 }, { name := "$VALUES", type := (.array (.object "com/example/quelex/quelex/Lexeme$Kind")), accessFlags := 4122, slot := 21, constantValue := 0 }]
  methods := #[k6m0]
  instanceTypes := #[(.object "java/lang/String"), .int, .int, (.object "com/example/quelex/quelex/TokenKind")]
  staticTypes := #[(.object "com/example/quelex/quelex/Lexeme$Kind"), (.object "com/example/quelex/quelex/Lexeme$Kind"), (.object "com/example/quelex/quelex/Lexeme$Kind"), (.object "com/example/quelex/quelex/Lexeme$Kind"), (.object "com/example/quelex/quelex/Lexeme$Kind"), (.object "com/example/quelex/quelex/Lexeme$Kind"), (.object "com/example/quelex/quelex/Lexeme$Kind"), (.object "com/example/quelex/quelex/Lexeme$Kind"), (.object "com/example/quelex/quelex/Lexeme$Kind"), (.object "com/example/quelex/quelex/Lexeme$Kind"), (.object "com/example/quelex/quelex/Lexeme$Kind"), (.object "com/example/quelex/quelex/Lexeme$Kind"), (.object "com/example/quelex/quelex/Lexeme$Kind"), (.object "com/example/quelex/quelex/Lexeme$Kind"), (.object "com/example/quelex/quelex/Lexeme$Kind"), (.object "com/example/quelex/quelex/Lexeme$Kind"), (.object "com/example/quelex/quelex/Lexeme$Kind"), (.object "com/example/quelex/quelex/Lexeme$Kind"), (.object "com/example/quelex/quelex/Lexeme$Kind"), (.object "com/example/quelex/quelex/Lexeme$Kind"), (.object "com/example/quelex/quelex/Lexeme$Kind"), (.array (.object "com/example/quelex/quelex/Lexeme$Kind"))]
  resolved := Array.replicate 187 none
  statics := some 0 }

def pool7 : Array CpInfo := pool [(1, u "java/lang/Cloneable"), (0, .class_ 1), (0, u "java/lang/Object"), (0, .class_ 3)] 3

/-- java/lang/Cloneable -/
def k7 : Class := { plain "java/lang/Cloneable" (some 0) with
  accessFlags := 1537
  interfaces := #[]
  cf := some (fileOf pool7 2 #[] #[] 1537 4 #[] #[])
  fields := #[]
  methods := #[]
  instanceTypes := #[]
  staticTypes := #[]
  resolved := Array.replicate 8 none
  statics := none }

/-- the primitive byte -/
def k8 : Class := { plain "byte" none with kind := .primitive 'B', accessFlags := 0x411 }
/-- [B -/
def k9 : Class := { plain "[B" (some 0) with kind := .array 8 .byte, interfaces := #[7, 4], accessFlags := 1041 }

/-- the primitive int -/
def k10 : Class := { plain "int" none with kind := .primitive 'I', accessFlags := 0x411 }
/-- [I -/
def k11 : Class := { plain "[I" (some 0) with kind := .array 10 .int, interfaces := #[7, 4], accessFlags := 1041 }

def heap : Heap := #[{ cls := 6, slots := #[.ref 1, .ref 3, .ref 4, .ref 2, .ref 19, .ref 5, .ref 7, .ref 9, .ref 11, .ref 14, .ref 10, .ref 8, .ref 20, .ref 6, .ref 12, .ref 13, .ref 16, .ref 17, .ref 21, .ref 15, .ref 18, .null], vm := .statics 6 },
  { cls := 6, slots := #[.null, .int 0, .int 0, .null], vm := .none },
  { cls := 6, slots := #[.null, .int 3, .int 0, .null], vm := .none },
  { cls := 6, slots := #[.null, .int 1, .int 0, .null], vm := .none },
  { cls := 6, slots := #[.null, .int 2, .int 0, .null], vm := .none },
  { cls := 6, slots := #[.null, .int 5, .int 0, .null], vm := .none },
  { cls := 6, slots := #[.null, .int 13, .int 0, .null], vm := .none },
  { cls := 6, slots := #[.null, .int 6, .int 0, .null], vm := .none },
  { cls := 6, slots := #[.null, .int 11, .int 0, .null], vm := .none },
  { cls := 6, slots := #[.null, .int 7, .int 0, .null], vm := .none },
  { cls := 6, slots := #[.null, .int 10, .int 0, .null], vm := .none },
  { cls := 6, slots := #[.null, .int 8, .int 0, .null], vm := .none },
  { cls := 6, slots := #[.null, .int 14, .int 0, .null], vm := .none },
  { cls := 6, slots := #[.null, .int 15, .int 0, .null], vm := .none },
  { cls := 6, slots := #[.null, .int 9, .int 0, .null], vm := .none },
  { cls := 6, slots := #[.null, .int 19, .int 0, .null], vm := .none },
  { cls := 6, slots := #[.null, .int 16, .int 0, .null], vm := .none },
  { cls := 6, slots := #[.null, .int 17, .int 0, .null], vm := .none },
  { cls := 6, slots := #[.null, .int 20, .int 0, .null], vm := .none },
  { cls := 6, slots := #[.null, .int 4, .int 0, .null], vm := .none },
  { cls := 6, slots := #[.null, .int 12, .int 0, .null], vm := .none },
  { cls := 6, slots := #[.null, .int 18, .int 0, .null], vm := .none }]
def classes : Array Class := #[k0, k1, k2, k3, k4, k5, k6, k7, k8, k9, k10, k11]
def interned : List (Array UInt16 × Addr) := []
def slotsUsed : Nat := 106
def theMethod : MethodId := ⟨1, 2⟩
def args0 : Array Value := #[.int 5]
def aboutOver (below : List Frame) : State where
  vm := { classes := classes, interned := interned.toArray }
  heap := heap
  slotsUsed := slotsUsed
  threads := #[{ frames := .invoking theMethod args0 :: below }]
def below0 : List Frame := [.native { method := ⟨0, 0⟩, args := #[] }]
def about1 : State := aboutOver below0
def p0 : Program := .bare "" "" ""
def e0 : Env := launch0.env 0 0 0
theorem w_frames : about1.frames = Frame.invoking theMethod args0 :: below0 := rfl
set_option maxRecDepth 65536 in
theorem w_args : argsFit about1.vm theMethod args0 = true := by decide +kernel
set_option maxRecDepth 65536 in
theorem w_heap : heapFits about1 = true := by decide +kernel
set_option maxRecDepth 65536 in
theorem w_runnable : about1.curStatus? = some .runnable := by decide +kernel
set_option maxRecDepth 65536 in
theorem w_alone : about1.alone = true := by decide +kernel
set_option maxRecDepth 65536 in
theorem w_named : about1.methodNamed? x = some theMethod := by decide +kernel
set_option maxRecDepth 65536 in
theorem w_hears : about1.hears theMethod below0 = true := by decide +kernel
set_option maxRecDepth 65536 in
theorem w_ripe : about1.ripe theMethod args0 below0 = true := by decide +kernel
theorem w_running : about1.status = .running := rfl
set_option maxRecDepth 65536 in
theorem w_room : about1.hasRoom e0.platform room_1 = true :=
  launch0.hasRoom_least _ room_1 (by decide +kernel) (by decide +kernel) (by decide +kernel) (by decide +kernel) (by decide +kernel) (by decide +kernel)
theorem allAtoms_all (ts : List Jvm.Cond) (a : Array Jvm.Value) (st : Jvm.State) : (allAtoms ts).before a st = ts.all (fun c => c.before a st) := by
  induction ts with
  | nil => rfl
  | cons c t ih =>
    show (Jvm.Cond.and c (allAtoms t)).before a st = _
    rw [Jvm.Cond.before_and, ih, List.all_cons]
def words1 : List Jvm.Cond := Jvm.Cond.code x code maxLocals ret :: tables_1
/-- a 'code' word, met by the world's own term for the bytes: nothing is compared byte by byte -/
theorem code_word {y : MethodName} {bytes : ByteArray} {mx : Nat} {rt : Option FieldType} {a : Array Value} {s : State} {m : MethodId} {meth : Method} {c : Code} (h1 : s.methodNamed? y = some m) (h2 : s.vm.method? m = some meth) (h3 : meth.code = some c) (h4 : c.code = bytes)
    (h5 : (c.maxLocals == mx && c.exceptionTable.isEmpty && decide (c.maxStack ≤ mostOperands) && decide (meth.sig.returnType = rt) && !meth.locks && decide (parseMethodDescriptor y.desc = some meth.sig)) = true) : (Jvm.Cond.code y bytes mx rt).before a s = true := by
  simp only [Bool.and_eq_true, beq_iff_eq, Bool.not_eq_true', decide_eq_true_eq] at h5
  obtain ⟨⟨⟨⟨⟨g1, g2⟩, g3⟩, g4⟩, g5⟩, g6⟩ := h5
  simp [Cond.before, Cond.holds, Cond.value, h1, h2, h3, h4, g1, g2, g3, g4, g5, g6]
def isCode : Jvm.Cond → Bool
  | .code _ _ _ _ => true
  | _ => false
theorem all_split {L : List Jvm.Cond} {P : Jvm.Cond → Bool} (h1 : L.all (fun c => isCode c || P c) = true) (h2 : ∀ c ∈ L.filter isCode, P c = true) : L.all P = true := by
  refine List.all_eq_true.mpr fun c hc => ?_
  have h := List.all_eq_true.mp h1 c hc
  rcases Bool.eq_false_or_eq_true (isCode c) with hi | hi
  · exact h2 c (List.mem_filter.mpr ⟨hc, hi⟩)
  · simpa [hi] using h
set_option maxRecDepth 65536 in
theorem w_c0 : (Jvm.Cond.code x code maxLocals ret).before args0 about1 = true := code_word (m := ⟨1, 2⟩) (meth := k1m2) (c := k1c2) (by decide +kernel) rfl rfl rfl (by decide +kernel)
set_option maxRecDepth 65536 in
theorem w_c1 : (Jvm.Cond.code ({ cls := "com/example/quelex/quelex/KindStartsAsNamePinLaw", name := "kindAt", desc := "(I)Lcom/example/quelex/quelex/Lexeme$Kind;" } : Jvm.MethodName) method_2_code (1 : Nat) (Option.some (Jvm.ClassFile.FieldType.object "com/example/quelex/quelex/Lexeme$Kind"))).before args0 about1 = true := code_word (m := ⟨1, 1⟩) (meth := k1m1) (c := k1c1) (by decide +kernel) rfl rfl rfl (by decide +kernel)
set_option maxRecDepth 65536 in
theorem w_c2 : (Jvm.Cond.code ({ cls := "com/example/quelex/quelex/Lexeme$Kind", name := "startsAsName", desc := "()Z" } : Jvm.MethodName) prog_34_method_6_code (1 : Nat) (Option.some Jvm.ClassFile.FieldType.boolean)).before args0 about1 = true := code_word (m := ⟨6, 0⟩) (meth := k6m0) (c := k6c0) (by decide +kernel) rfl rfl rfl (by decide +kernel)
def codes1 : List Jvm.Cond := [Jvm.Cond.code x code maxLocals ret, Jvm.Cond.code ({ cls := "com/example/quelex/quelex/KindStartsAsNamePinLaw", name := "kindAt", desc := "(I)Lcom/example/quelex/quelex/Lexeme$Kind;" } : Jvm.MethodName) method_2_code (1 : Nat) (Option.some (Jvm.ClassFile.FieldType.object "com/example/quelex/quelex/Lexeme$Kind")), Jvm.Cond.code ({ cls := "com/example/quelex/quelex/Lexeme$Kind", name := "startsAsName", desc := "()Z" } : Jvm.MethodName) prog_34_method_6_code (1 : Nat) (Option.some Jvm.ClassFile.FieldType.boolean)]
set_option maxRecDepth 65536 in
theorem codes_eq : words1.filter isCode = codes1 := rfl
theorem w_codes : ∀ c ∈ words1.filter isCode, c.before args0 about1 = true := by
  rw [codes_eq]
  intro c hc
  simp only [codes1, List.mem_cons, List.not_mem_nil, or_false] at hc
  rcases hc with rfl | rfl | rfl
  · exact w_c0
  · exact w_c1
  · exact w_c2
set_option maxRecDepth 65536 in
theorem w_t1 : (words1.take 24).all (fun c => isCode c || c.before args0 about1) = true := by decide +kernel
set_option maxRecDepth 65536 in
theorem w_t2 : ((words1.drop 24).take 24).all (fun c => isCode c || c.before args0 about1) = true := by decide +kernel
set_option maxRecDepth 65536 in
theorem w_t3 : ((words1.drop 24).drop 24).all (fun c => isCode c || c.before args0 about1) = true := by decide +kernel
theorem w_tables : (allAtoms (Jvm.Cond.code x code maxLocals ret :: tables_1)).before args0 about1 = true := by
  rw [allAtoms_all]
  show words1.all (fun c => c.before args0 about1) = true
  refine all_split ?_ w_codes
  rw [← List.take_append_drop 24 words1, List.all_append, w_t1, ← List.take_append_drop 24 (words1.drop 24), List.all_append, w_t2, w_t3]
  rfl
set_option maxRecDepth 65536 in
theorem w_case : (Jvm.Cond.and given_1 narrow_1).before args0 about1 = true := by decide +kernel
theorem w_applies : (headSpec (Jvm.Cond.code x code maxLocals ret :: tables_1) room_1).applies x e0.platform about1 = true :=
  (Spec.applies_iff w_frames).mpr ⟨w_running, w_runnable, w_alone, w_named, w_hears, w_ripe, w_room, w_tables⟩
theorem atStart : AtStart classFile x code maxLocals ret World_1 tables_1 room_1 Calls_1 rest_1 Pre_1 launch0 p0 e0 about1 theMethod args0 below0 :=
  ⟨lists_1, trivial, launch0.admits_env _ _ _, launch0.least_env, fairChoices_fair.cas, fairChoices_fair.clock, w_frames, w_args, w_heap, w_applies, trivial, trivial, w_case⟩
end start1
theorem witness_1 : WitnessClaimed_1 := ⟨start1.p0, start1.e0, start1.about1, start1.theMethod, start1.args0, start1.below0, start1.atStart⟩
end Jvm.Pilot.@@N@@
