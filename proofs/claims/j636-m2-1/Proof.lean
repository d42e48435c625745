import JvmDerived
import JvmDerived.Pilot.@@N@@Statement
import JvmDerived.Pilot.@@N@@Code
set_option linter.unusedVariables false
set_option linter.unusedSimpArgs false
@@BLOCK:NumsL.lean.txt@@
namespace Jvm.Pilot.@@N@@
open Jvm Jvm.ClassFile Sem Op Lib Jvm.Free Jvm.Stand Jvm.LawKit Jvm.RoadKit Bundle Jvm.Pilot.@@N@@.Jvm.D
section OwnKit
variable {p : Program} {l : Launch} {e : Env} {R : Room} {s : State} {m : MethodId} {args : Array Value} {below : List Frame} {meth : Method} {c : Code} {T T' : State} {locs : List Loc} {cells slots : Nat} {Q : Option Value → Heap → List Loc → Prop} {k n : Nat} {Fin : Outcome → State → Prop} {Z : State} {a0 : Array Value} {h : Heap} {pc : Nat} {Ls : Array Slot} {rest : List Value}
/-- from this frame on the body ends as Fin says -/
def own_Go (p : Program) (e : Env) (below : List Frame) (Fin : Outcome → State → Prop) (T : State) (f : JFrame) : Prop :=
  ∃ s₂ o, Steps p.tables e below (T.setTop f) s₂ ∧ s₂.status = .running ∧ Ended s₂ below o ∧ Fin o s₂
/-- it returned, as Q says; the frame as ever -/
def own_Fin (s : State) (Q : Option Value → Heap → List Loc → Prop) (k n : Nat) (o : Outcome) (t : State) : Prop := ∃ v L, o = .returned v ∧ Q v t.heap L ∧ FrameEnd s o t L k n
/-- it returned, as Q says; String constants may have been resolved -/
def own_FinW (s : State) (Q : Option Value → Heap → List Loc → Prop) (k n : Nat) (o : Outcome) (t : State) : Prop := ∃ v L, o = .returned v ∧ Q v t.heap L ∧ ReturnedEndW s o t L k n
theorem own_by {f f' : JFrame} (st : ∀ t, Steps p.tables e below (T'.setTop f') t → Steps p.tables e below (T.setTop f) t) (g : own_Go p e below Fin T' f') : own_Go p e below Fin T f := by
  obtain ⟨s₂, o, h, r⟩ := g
  exact ⟨s₂, o, st _ h, r⟩
theorem own_start {f f' : JFrame} (q : f = f') (g : own_Go p e below (own_Fin s Q k n) T f') : ∃ s₂ o, Steps p.tables e below (T.setTop f) s₂ ∧ s₂.status = .running ∧ Ended s₂ below o ∧ ∃ v L, o = .returned v ∧ Q v s₂.heap L ∧ FrameEnd s o s₂ L k n := by
  subst q; exact g
theorem own_startW {f f' : JFrame} (q : f = f') (g : own_Go p e below (own_FinW s Q k n) T f') : ∃ s₂ o, Steps p.tables e below (T.setTop f) s₂ ∧ s₂.status = .running ∧ Ended s₂ below o ∧ ∃ v L, o = .returned v ∧ Q v s₂.heap L ∧ ReturnedEndW s o s₂ L k n := by
  subst q; exact g
theorem own_ret (X : Stand p l e R s m args below meth c T locs cells slots) (hx : p.tables.exec = Jvm.exec) (hlk : meth.locks = false) {w : Value} {t : FieldType} {i : Instr} (hret : meth.sig.returnType = some t)
    (hi : (i = .ireturn ∧ (t = .int ∨ t = .boolean ∨ t = .byte ∨ t = .char ∨ t = .short) ∧ ∃ z, w = .int z) ∨ (i = .lreturn ∧ t = .long ∧ ∃ z, w = .long z) ∨ (i = .dreturn ∧ t = .double ∧ ∃ z, w = .double z) ∨ (i = .freturn ∧ t = .float ∧ ∃ z, w = .float z) ∨ (i = .areturn ∧ t.isReference = true ∧ w.isRef = true))
    (hn : narrow t w = w) (hd : decode c.code pc = .ok (i, 1)) (eT : T.heap = h) (hk : cells ≤ k) (hs : slots ≤ n) (q : Q (some w) h locs) : own_Go p e below (own_Fin s Q k n) T (mkF m pc Ls (w :: rest)) := by
  obtain ⟨fs, hr, hrun, hended, hW, hsame⟩ := X.leave (v := some w) (fun h => by rw [hret] at h; cases h) hlk
  refine ⟨_, _, retOut X hx hret hn hi hd hr, hrun, hended, _, _, rfl, ?_, ⟨_, rfl⟩, hW, hsame.mono hk hs⟩
  show Q _ T.heap _
  rw [eT]; exact q
theorem own_retI (X : Stand p l e R s m args below meth c T locs cells slots) (hx : p.tables.exec = Jvm.exec) (hlk : meth.locks = false) {z : Int32} (hret : meth.sig.returnType = some .int) (hd : decode c.code pc = .ok (.ireturn, 1)) (eT : T.heap = h) (hk : cells ≤ k) (hs : slots ≤ n) (q : Q (some (.int z)) h locs) : own_Go p e below (own_Fin s Q k n) T (mkF m pc Ls (.int z :: rest)) :=
  own_ret X hx hlk hret (Or.inl ⟨rfl, Or.inl rfl, z, rfl⟩) rfl hd eT hk hs q
theorem own_retZ (X : Stand p l e R s m args below meth c T locs cells slots) (hx : p.tables.exec = Jvm.exec) (hlk : meth.locks = false) {z : Int32} (hret : meth.sig.returnType = some .boolean) (hz : z = 0 ∨ z = 1) (hd : decode c.code pc = .ok (.ireturn, 1)) (eT : T.heap = h) (hk : cells ≤ k) (hs : slots ≤ n) (q : Q (some (.int z)) h locs) : own_Go p e below (own_Fin s Q k n) T (mkF m pc Ls (.int z :: rest)) :=
  own_ret X hx hlk hret (Or.inl ⟨rfl, Or.inr (Or.inl rfl), z, rfl⟩) (by rcases hz with rfl | rfl <;> rfl) hd eT hk hs q
theorem own_retJ (X : Stand p l e R s m args below meth c T locs cells slots) (hx : p.tables.exec = Jvm.exec) (hlk : meth.locks = false) {z : Int64} (hret : meth.sig.returnType = some .long) (hd : decode c.code pc = .ok (.lreturn, 1)) (eT : T.heap = h) (hk : cells ≤ k) (hs : slots ≤ n) (q : Q (some (.long z)) h locs) : own_Go p e below (own_Fin s Q k n) T (mkF m pc Ls (.long z :: rest)) :=
  own_ret X hx hlk hret (Or.inr (Or.inl ⟨rfl, rfl, z, rfl⟩)) rfl hd eT hk hs q
theorem own_retR (X : Stand p l e R s m args below meth c T locs cells slots) (hx : p.tables.exec = Jvm.exec) (hlk : meth.locks = false) {w : Value} {t : FieldType} (hret : meth.sig.returnType = some t) (ht : t.isReference = true) (hw : w.isRef = true) (hn : narrow t w = w) (hd : decode c.code pc = .ok (.areturn, 1)) (eT : T.heap = h) (hk : cells ≤ k) (hs : slots ≤ n) (q : Q (some w) h locs) : own_Go p e below (own_Fin s Q k n) T (mkF m pc Ls (w :: rest)) :=
  own_ret X hx hlk hret (Or.inr (Or.inr (Or.inr (Or.inr ⟨rfl, ht, hw⟩)))) hn hd eT hk hs q
theorem own_retV (X : Stand p l e R s m args below meth c T locs cells slots) (hx : p.tables.exec = Jvm.exec) (hlk : meth.locks = false) (hret : meth.sig.returnType = none) (hd : decode c.code pc = .ok (.return_, 1)) (eT : T.heap = h) (hk : cells ≤ k) (hs : slots ≤ n) (q : Q none h locs) : own_Go p e below (own_Fin s Q k n) T (mkF m pc Ls []) := by
  obtain ⟨fs, hr, hrun, hended, hW, hsame⟩ := X.leave (v := none) (fun _ => rfl) hlk
  refine ⟨_, _, X.returnOut hx hret hd hr, hrun, hended, _, _, rfl, ?_, ⟨_, rfl⟩, hW, hsame.mono hk hs⟩
  show Q _ T.heap _
  rw [eT]; exact q
/-- a conditional branch as a plain comparison -/
def own_cnd : ClassFile.Cond → Int32 → Int32 → Prop
  | .eq, x, y => x = y
  | .ne, x, y => ¬ x = y
  | .lt, x, y => x < y
  | .ge, x, y => ¬ x < y
  | .gt, x, y => y < x
  | .le, x, y => ¬ y < x
def own_neg : ClassFile.Cond → ClassFile.Cond
  | .eq => .ne
  | .ne => .eq
  | .lt => .ge
  | .ge => .lt
  | .gt => .le
  | .le => .gt
theorem own_holds (cd : ClassFile.Cond) (x y : Int32) : (if_icmp.holds cd x y = true ∧ own_cnd cd x y) ∨ (if_icmp.holds cd x y = false ∧ own_cnd (own_neg cd) x y) := by
  cases cd
  case eq => by_cases q : x = y; · exact Or.inl ⟨(teq q).1, q⟩
             · exact Or.inr ⟨(feq q).1, q⟩
  case ne => by_cases q : x = y; · exact Or.inr ⟨(teq q).2, q⟩
             · exact Or.inl ⟨(feq q).2, q⟩
  case lt => by_cases q : x < y; · exact Or.inl ⟨(tlt q).1, q⟩
             · exact Or.inr ⟨(flt q).1, q⟩
  case ge => by_cases q : x < y; · exact Or.inr ⟨(tlt q).2.1, q⟩
             · exact Or.inl ⟨(flt q).2.1, q⟩
  case gt => by_cases q : y < x; · exact Or.inl ⟨(tlt q).2.2.1, q⟩
             · exact Or.inr ⟨(flt q).2.2.1, q⟩
  case le => by_cases q : y < x; · exact Or.inr ⟨(tlt q).2.2.2, q⟩
             · exact Or.inl ⟨(flt q).2.2.2, q⟩
theorem own_icmp (X : Stand p l e R s m args below meth c T locs cells slots) (hx : p.tables.exec = Jvm.exec) {cd : ClassFile.Cond} {x y : Int32} {o : Int} (pc' : Nat) (hd : decode c.code pc = .ok (.if_icmp cd o, 3)) (ho : 0 ≤ (pc : Int) + o) (hp : ((pc : Int) + o).toNat = pc')
    (g1 : own_cnd cd x y → own_Go p e below Fin T (mkF m pc' Ls rest)) (g2 : own_cnd (own_neg cd) x y → own_Go p e below Fin T (mkF m (pc + 3) Ls rest)) : own_Go p e below Fin T (mkF m pc Ls (.int y :: .int x :: rest)) := by
  rcases own_holds cd x y with ⟨q, q'⟩ | ⟨q, q'⟩
  · exact own_by (fun t kk => XS.icmpYes X.here hx rfl (pc0 := pc) (pc' := pc') rfl hd rfl q ho hp kk) (g1 q')
  · exact own_by (fun t kk => XS.icmpNo X.here hx rfl hd rfl q kk) (g2 q')
theorem own_if (X : Stand p l e R s m args below meth c T locs cells slots) (hx : p.tables.exec = Jvm.exec) {cd : ClassFile.Cond} {x : Int32} {o : Int} (pc' : Nat) (hd : decode c.code pc = .ok (.ifCond cd o, 3)) (ho : 0 ≤ (pc : Int) + o) (hp : ((pc : Int) + o).toNat = pc')
    (g1 : own_cnd cd x 0 → own_Go p e below Fin T (mkF m pc' Ls rest)) (g2 : own_cnd (own_neg cd) x 0 → own_Go p e below Fin T (mkF m (pc + 3) Ls rest)) : own_Go p e below Fin T (mkF m pc Ls (.int x :: rest)) := by
  rcases own_holds cd x 0 with ⟨q, q'⟩ | ⟨q, q'⟩
  · exact own_by (fun t kk => XS.ifYes X.here hx rfl (pc0 := pc) (pc' := pc') rfl hd rfl ((if0 _ _).trans q) ho hp kk) (g1 q')
  · exact own_by (fun t kk => XS.ifNo X.here hx rfl hd rfl ((if0 _ _).trans q) kk) (g2 q')
/-- a static call by the callee's contract -/
theorem own_callS (X : Stand p l e R s m args below meth c T locs cells slots) (hx : p.tables.exec = Jvm.exec) (hZ : Z.Warmed39 s.vm) {own : String} {index : Nat} {y : MethodName} {bytes : ByteArray} {maxL W : Nat} {ret : Option FieldType} {rm : Room} {Qc : Option Value → Heap → List Loc → Prop}
    (hown : s.vm.findClass own = some m.cls) (w1 : (Cond.methodLink own index y).before a0 Z = true) (w2 : (Cond.static y).before a0 Z = true) (w3 : (Cond.initialized y.cls).before a0 Z = true) (w4 : (Cond.code y bytes maxL ret).before a0 Z = true)
    (hy : y.cls ≠ "java/lang/invoke/MethodHandle" ∧ y.cls ≠ "java/lang/invoke/VarHandle") (hml : Ls.size = c.maxLocals) {argsL : List Value} {ps : List FieldType} {rt : Option FieldType} (pd : parseMethodDescriptor y.desc = some ⟨ps, rt⟩) (hlen : argsL.length = ps.length)
    (hM : MetFree l y (head1 [Cond.code y bytes maxL ret] rm) (fun a U => a = argsL.toArray ∧ Z.Warmed39 U.vm ∧ U.heap = h) (fun _ _ _ _ _ => True) (fun _ U o U' => ∃ v L, o = .returned v ∧ Qc v U'.heap L ∧ FrameEnd U o U' L rm.cells rm.slots))
    (hf : rm.frames + 1 ≤ R.frames) (hl : W + (maxL + 11) + rm.locals ≤ R.locals) (hW : (rest.map fun v => v.category).sum ≤ W) (hc : cells + rm.cells ≤ R.cells) (hs : slots + rm.slots ≤ R.slots) (eT : T.heap = h) {st : List Value} (hst : st = argsL.reverse ++ rest) (hd : decode c.code pc = .ok (.invokestatic index, 3))
    (g : ∀ (v : Option Value) (T' : State) (L : List Loc), Stand p l e R s m args below meth c T' (locs ++ L) (cells + rm.cells) (slots + rm.slots) → Qc v T'.heap L → own_Go p e below Fin T' (mkF m (pc + 3) Ls (v.toList ++ rest))) :
    own_Go p e below Fin T (mkF m pc Ls st) := by
  subst hst
  obtain ⟨v, _, ⟨T2, L2, k2, n2⟩, -, X2, ⟨Lc2, hQ2, l2, y2, z2⟩, st2⟩ := Jvm.LawKit.callS X hx (y := y) hown (mvT hZ w1) (mvT hZ w2) (mvT hZ w3) (mvT hZ w4) hy (backOf (W := W) hM hZ w4 w3 hf hl) (g := (mkF m pc Ls (argsL.reverse ++ rest))) rfl hml (argsL := argsL) (rest := rest) (lenOf pd hlen) rfl (by show 2 * 0 + _ ≤ _; omega) hd (fun _ _ => ⟨rfl, eT, hc, hs⟩)
  dsimp only [Pt.U, Pt.locs, Pt.cells, Pt.slots] at X2 l2 y2 z2 st2 hQ2
  subst l2 y2 z2
  exact own_by (fun t kk => st2 _ kk) (g v T2 Lc2 X2 hQ2)
/-- a constructor by its contract -/
theorem own_callC (X : Stand p l e R s m args below meth c T locs cells slots) (hx : p.tables.exec = Jvm.exec) (hZ : Z.Warmed39 s.vm) {own : String} {index : Nat} {y : MethodName} {bytes : ByteArray} {maxL W : Nat} {rm : Room} {Qc : Option Value → Heap → List Loc → Prop} (hy1 : y.name = "<init>")
    (hown : s.vm.findClass own = some m.cls) (w1 : (Cond.methodLink own index y).before a0 Z = true) (w2 : (Cond.instanceMethod y).before a0 Z = true) (w3 : (Cond.initialized y.cls).before a0 Z = true) (w4 : (Cond.code y bytes maxL none).before a0 Z = true)
    (hy : y.cls ≠ "java/lang/invoke/MethodHandle" ∧ y.cls ≠ "java/lang/invoke/VarHandle") (hml : Ls.size = c.maxLocals) {a : Addr} {argsL : List Value} {ps : List FieldType} {rt : Option FieldType} (pd : parseMethodDescriptor y.desc = some ⟨ps, rt⟩) (hlen : argsL.length = ps.length)
    (hM : MetFree l y (head1 [Cond.code y bytes maxL none] rm) (fun b U => b = (.ref a :: argsL).toArray ∧ Z.Warmed39 U.vm ∧ U.heap = h) (fun _ _ _ _ _ => True) (fun _ U o U' => ∃ v L, o = .returned v ∧ Qc v U'.heap L ∧ FrameEnd U o U' L rm.cells rm.slots))
    (hf : rm.frames + 1 ≤ R.frames) (hl : W + (maxL + 11) + rm.locals ≤ R.locals) (hW : (rest.map fun v => v.category).sum ≤ W) (hc : cells + rm.cells ≤ R.cells) (hs : slots + rm.slots ≤ R.slots) (eT : T.heap = h) {st : List Value} (hst : st = argsL.reverse ++ .ref a :: rest) (hd : decode c.code pc = .ok (.invokespecial index, 3))
    (g : ∀ (v : Option Value) (T' : State) (L : List Loc), Stand p l e R s m args below meth c T' (locs ++ L) (cells + rm.cells) (slots + rm.slots) → Qc v T'.heap L → own_Go p e below Fin T' (mkF m (pc + 3) Ls (v.toList ++ rest))) :
    own_Go p e below Fin T (mkF m pc Ls st) := by
  subst hst
  obtain ⟨v, _, ⟨T2, L2, k2, n2⟩, -, X2, ⟨Lc2, hQ2, l2, y2, z2⟩, st2⟩ := X.specialBack hx (y := y) hy1 hown (mvT hZ w1) (mvT hZ w2) (mvT hZ w4) hy (backOf (W := W) hM hZ w4 w3 hf hl) (g := (mkF m pc Ls (argsL.reverse ++ .ref a :: rest))) rfl hml (Steps.refl _) (a := a) (argsL := argsL) (rest := rest) (lenOf pd hlen) rfl (by show 2 * 0 + _ ≤ _; omega) hd (fun _ _ => ⟨rfl, eT, hc, hs⟩)
  dsimp only [Pt.U, Pt.locs, Pt.cells, Pt.slots] at X2 l2 y2 z2 st2 hQ2
  subst l2 y2 z2
  exact own_by (fun t kk => st2.trans kk) (g v T2 Lc2 X2 hQ2)
/-- an instance method of the receiver's own class by its contract -/
theorem own_callV (X : Stand p l e R s m args below meth c T locs cells slots) (hx : p.tables.exec = Jvm.exec) (hZ : Z.Warmed39 s.vm) {own C : String} {index : Nat} {y z : MethodName} {bytes : ByteArray} {maxL W : Nat} {ret : Option FieldType} {rm : Room} {Qc : Option Value → Heap → List Loc → Prop}
    (hown : s.vm.findClass own = some m.cls) (w1 : (Cond.methodLink own index y).before a0 Z = true) (wd : (Cond.declares y).before a0 Z = true) (nf : NotFace s y) (ws : (Cond.selects C y z).before a0 Z = true) (w2 : (Cond.instanceMethod z).before a0 Z = true) (w3 : (Cond.initialized z.cls).before a0 Z = true) (w4 : (Cond.code z bytes maxL ret).before a0 Z = true)
    (hy : y.cls ≠ "java/lang/invoke/MethodHandle" ∧ y.cls ≠ "java/lang/invoke/VarHandle") (hml : Ls.size = c.maxLocals) {a : Addr} {argsL : List Value} {ps : List FieldType} {rt : Option FieldType} (pd : parseMethodDescriptor y.desc = some ⟨ps, rt⟩) (hlen : argsL.length = ps.length)
    (eT : T.heap = h) (E : Exa Z h a C)
    (hM : MetFree l z (head1 [Cond.code z bytes maxL ret] rm) (fun b U => b = (.ref a :: argsL).toArray ∧ Z.Warmed39 U.vm ∧ U.heap = h) (fun _ _ _ _ _ => True) (fun _ U o U' => ∃ v L, o = .returned v ∧ Qc v U'.heap L ∧ FrameEnd U o U' L rm.cells rm.slots))
    (hf : rm.frames + 1 ≤ R.frames) (hl : W + (maxL + 11) + rm.locals ≤ R.locals) (hW : (rest.map fun v => v.category).sum ≤ W) (hc : cells + rm.cells ≤ R.cells) (hs : slots + rm.slots ≤ R.slots) {st : List Value} (hst : st = argsL.reverse ++ .ref a :: rest) (hd : decode c.code pc = .ok (.invokevirtual index, 3))
    (g : ∀ (v : Option Value) (T' : State) (L : List Loc), Stand p l e R s m args below meth c T' (locs ++ L) (cells + rm.cells) (slots + rm.slots) → Qc v T'.heap L → own_Go p e below Fin T' (mkF m (pc + 3) Ls (v.toList ++ rest))) :
    own_Go p e below Fin T (mkF m pc Ls st) := by
  subst hst
  obtain ⟨cq, kq, qa, qb, qc⟩ := isOf hZ eT E
  obtain ⟨v, _, ⟨T2, L2, k2, n2⟩, -, X2, ⟨Lc2, hQ2, l2, y2, z2⟩, st2⟩ := X.virtualBack hx (y := y) (z := z) hown (mvT hZ w1) (mvT hZ wd) nf (mvT hZ ws) (mvT hZ w2) hy (backOf (W := W) hM hZ w4 w3 hf hl) qa qc (g := (mkF m pc Ls (argsL.reverse ++ .ref a :: rest))) rfl hml (Steps.refl _) (argsL := argsL) (rest := rest) (lenOf pd hlen) rfl (by show 2 * 0 + _ ≤ _; omega) hd (fun _ _ => ⟨rfl, eT, hc, hs⟩)
  dsimp only [Pt.U, Pt.locs, Pt.cells, Pt.slots] at X2 l2 y2 z2 st2 hQ2
  subst l2 y2 z2
  exact own_by (fun t kk => st2.trans kk) (g v T2 Lc2 X2 hQ2)
theorem own_getF (X : Stand p l e R s m args below meth c T locs cells slots) (hx : p.tables.exec = Jvm.exec) (hZ : Z.Warmed39 s.vm) {own R0 O nm d : String} {index : Nat} (hown : s.vm.findClass own = some m.cls) (w : (Cond.fieldLink own index R0 nm d).before a0 Z = true) (via : Via Z R0 O nm d) (eT : T.heap = h) {a : Addr} {v : Value} (F : Fld Z h a O nm d v) (hd : decode c.code pc = .ok (.getfield index, 3))
    (g : ∀ T', Stand p l e R s m args below meth c T' locs cells slots → T'.heap = h → own_Go p e below Fin T' (mkF m (pc + 3) Ls (v :: rest))) : own_Go p e below Fin T (mkF m pc Ls (.ref a :: rest)) := by
  obtain ⟨T', X', e', st⟩ := getF X hx hZ hown (host := "") (Or.inl w) via eT F (g := mkF m pc Ls (.ref a :: rest)) rfl rfl hd
  exact own_by (fun t kk => st _ kk) (g T' X' e')
theorem own_getFN (X : Stand p l e R s m args below meth c T locs cells slots) (hx : p.tables.exec = Jvm.exec) (hZ : Z.Warmed39 s.vm) {own R0 O nm d host : String} {index : Nat} (hown : s.vm.findClass own = some m.cls) (w : (Cond.fieldLinkNest own index R0 nm d host).before a0 Z = true) (via : Via Z R0 O nm d) (eT : T.heap = h) {a : Addr} {v : Value} (F : Fld Z h a O nm d v) (hd : decode c.code pc = .ok (.getfield index, 3))
    (g : ∀ T', Stand p l e R s m args below meth c T' locs cells slots → T'.heap = h → own_Go p e below Fin T' (mkF m (pc + 3) Ls (v :: rest))) : own_Go p e below Fin T (mkF m pc Ls (.ref a :: rest)) := by
  obtain ⟨T', X', e', st⟩ := getF X hx hZ hown (Or.inr w) via eT F (g := mkF m pc Ls (.ref a :: rest)) rfl rfl hd
  exact own_by (fun t kk => st _ kk) (g T' X' e')
theorem own_getS (X : Stand p l e R s m args below meth c T locs cells slots) (hx : p.tables.exec = Jvm.exec) (hZ : Z.Warmed39 s.vm) {own R0 O nm d : String} {index : Nat} (hown : s.vm.findClass own = some m.cls) (w : (Cond.fieldLink own index R0 nm d).before a0 Z = true) (via : Via Z R0 O nm d) (eT : T.heap = h) {v : Value} (F : Sta Z h O nm d v) (hd : decode c.code pc = .ok (.getstatic index, 3)) {st0 : List Value}
    (g : ∀ T', Stand p l e R s m args below meth c T' locs cells slots → T'.heap = h → own_Go p e below Fin T' (mkF m (pc + 3) Ls (v :: st0))) : own_Go p e below Fin T (mkF m pc Ls st0) := by
  obtain ⟨T', X', e', st⟩ := getS2 X hx hZ hown (host := "") (Or.inl w) via eT F (g := mkF m pc Ls st0) rfl hd
  exact own_by (fun t kk => st _ kk) (g T' X' e')
theorem own_getSN (X : Stand p l e R s m args below meth c T locs cells slots) (hx : p.tables.exec = Jvm.exec) (hZ : Z.Warmed39 s.vm) {own R0 O nm d host : String} {index : Nat} (hown : s.vm.findClass own = some m.cls) (w : (Cond.fieldLinkNest own index R0 nm d host).before a0 Z = true) (via : Via Z R0 O nm d) (eT : T.heap = h) {v : Value} (F : Sta Z h O nm d v) (hd : decode c.code pc = .ok (.getstatic index, 3)) {st0 : List Value}
    (g : ∀ T', Stand p l e R s m args below meth c T' locs cells slots → T'.heap = h → own_Go p e below Fin T' (mkF m (pc + 3) Ls (v :: st0))) : own_Go p e below Fin T (mkF m pc Ls st0) := by
  obtain ⟨T', X', e', st⟩ := getS2 X hx hZ hown (Or.inr w) via eT F (g := mkF m pc Ls st0) rfl hd
  exact own_by (fun t kk => st _ kk) (g T' X' e')
theorem own_putF (X : Stand p l e R s m args below meth c T locs cells slots) (hx : p.tables.exec = Jvm.exec) (hZ : Z.Warmed39 s.vm) {own R0 O nm d C : String} {index kk : Nat} {ty : FieldType} (hown : s.vm.findClass own = some m.cls) (w : (Cond.fieldLink own index R0 nm d).before a0 Z = true) (via : Via Z R0 O nm d) (eT : T.heap = h) {a : Addr} {v old : Value} (F : Fld Z h a O nm d old) (E : Exa Z h a C)
    (L : (Cond.lays C O nm d).before a0 Z = true ∨ ((Cond.laysFinal C O nm d).before a0 Z = true ∧ own = O ∧ meth.name = "<init>")) (wi : (Cond.instantiable C kk).before a0 Z = true) (hty : parseFieldDescriptor d = some ty) (hn : narrow ty v = v) (hf : fits ty v = true) (hd : decode c.code pc = .ok (.putfield index, 3))
    (g : ∀ T' h', Stand p l e R s m args below meth c T' (locs ++ [⟨a, Jvm.RoadKit.slotOf Z O nm d⟩]) cells slots → T'.heap = h' → Wr h h' a (Jvm.RoadKit.slotOf Z O nm d) v → own_Go p e below Fin T' (mkF m (pc + 3) Ls rest)) : own_Go p e below Fin T (mkF m pc Ls (v :: .ref a :: rest)) := by
  obtain ⟨T', h', X', e', W', st⟩ := putF X hx hZ hown (host := "") (Or.inl w) via eT F E L wi hty hn hf (g := mkF m pc Ls (v :: .ref a :: rest)) rfl rfl hd
  exact own_by (fun t kk => st _ kk) (g T' h' X' e' W')
theorem own_newO (X : Stand p l e R s m args below meth c T locs cells slots) (hx : p.tables.exec = Jvm.exec) (hZ : Z.Warmed39 s.vm) {own C : String} {index nn : Nat} (hown : s.vm.findClass own = some m.cls) (w : (Cond.classLink own index C).before a0 Z = true) (wi : (Cond.instantiable C nn).before a0 Z = true) (wz : (Cond.initialized C).before a0 Z = true) (eT : T.heap = h) (hd : decode c.code pc = .ok (.new index, 3)) (hc : cells + 1 ≤ R.cells) (hl : slots + nn ≤ R.slots) {st0 : List Value}
    (g : ∀ T' h' (b : Addr), Stand p l e R s m args below meth c T' locs (cells + 1) (slots + nn) → T'.heap = h' → b = h.size → Ext h h' → Exa Z h' b C → (∀ {O nm d : String} {ty : FieldType}, Laid Z a0 C O nm d → parseFieldDescriptor d = some ty → Fld Z h' b O nm d (defaultValue ty)) → own_Go p e below Fin T' (mkF m (pc + 3) Ls (.ref b :: st0))) : own_Go p e below Fin T (mkF m pc Ls st0) := by
  obtain ⟨T', h', X', e', E', A', D', -, st⟩ := newO X hx hZ hown w wi wz eT (g := mkF m pc Ls st0) rfl hd hc hl
  exact own_by (fun t kk => st _ kk) (g T' h' _ X' e' rfl E' A' D')
theorem own_initO (X : Stand p l e R s m args below meth c T locs cells slots) (hx : p.tables.exec = Jvm.exec) (hZ : Z.Warmed39 s.vm) {own : String} {idx : Nat} (hown : s.vm.findClass own = some m.cls) (w1 : (Cond.methodLink own idx Lib.objectInit).before a0 Z = true) (w2 : (Cond.instanceMethod Lib.objectInit).before a0 Z = true) (w3 : (Cond.code Lib.objectInit ⟨#[0xb1]⟩ 1 none).before a0 Z = true) (eT : T.heap = h) (hml : Ls.size = c.maxLocals) {a : Addr} (hd : decode c.code pc = .ok (.invokespecial idx, 3)) (hf : 1 ≤ R.frames) {W : Nat} (hW : (rest.map fun v => v.category).sum ≤ W) (hl : W + 12 ≤ R.locals)
    (g : ∀ T', Stand p l e R s m args below meth c T' locs cells slots → T'.heap = h → own_Go p e below Fin T' (mkF m (pc + 3) Ls rest)) : own_Go p e below Fin T (mkF m pc Ls (.ref a :: rest)) := by
  obtain ⟨T', X', e', st⟩ := initO X hx hZ hown w1 w2 w3 eT (g := mkF m pc Ls (.ref a :: rest)) rfl hml rfl hd hf (W := W) (by show 2 * 0 + _ ≤ _; omega) hl
  exact own_by (fun t kk => st _ kk) (g T' X' e')
end OwnKit
section OwnMore
variable {p : Program} {l : Launch} {e : Env} {R : Room} {s : State} {m : MethodId} {args : Array Value} {below : List Frame} {meth : Method} {c : Code} {T T' : State} {locs : List Loc} {cells slots : Nat} {Q : Option Value → Heap → List Loc → Prop} {k n : Nat} {Fin : Outcome → State → Prop} {Z : State} {a0 : Array Value} {h : Heap} {pc : Nat} {Ls : Array Slot} {rest : List Value}
theorem own_acmpEq (X : Stand p l e R s m args below meth c T locs cells slots) (hx : p.tables.exec = Jvm.exec) {a b : Addr} {o : Int} (pc' : Nat) (hd : decode c.code pc = .ok (.if_acmp .eq o, 3)) (ho : 0 ≤ (pc : Int) + o) (hp : ((pc : Int) + o).toNat = pc')
    (g1 : a = b → own_Go p e below Fin T (mkF m pc' Ls rest)) (g2 : ¬ a = b → own_Go p e below Fin T (mkF m (pc + 3) Ls rest)) : own_Go p e below Fin T (mkF m pc Ls (.ref b :: .ref a :: rest)) := by
  by_cases q : a = b
  · exact own_by (fun t kk => XT.acmpYes X.here hx rfl (pc0 := pc) (pc' := pc') rfl hd rfl rfl rfl (decide_eq_true (congrArg Value.ref q)) ho hp kk) (g1 q)
  · exact own_by (fun t kk => XT.acmpNo X.here hx rfl hd rfl rfl rfl (decide_eq_false fun z => q (Value.ref.inj z)) kk) (g2 q)
theorem own_acmpNe (X : Stand p l e R s m args below meth c T locs cells slots) (hx : p.tables.exec = Jvm.exec) {a b : Addr} {o : Int} (pc' : Nat) (hd : decode c.code pc = .ok (.if_acmp .ne o, 3)) (ho : 0 ≤ (pc : Int) + o) (hp : ((pc : Int) + o).toNat = pc')
    (g1 : ¬ a = b → own_Go p e below Fin T (mkF m pc' Ls rest)) (g2 : a = b → own_Go p e below Fin T (mkF m (pc + 3) Ls rest)) : own_Go p e below Fin T (mkF m pc Ls (.ref b :: .ref a :: rest)) := by
  by_cases q : a = b
  · exact own_by (fun t kk => XT.acmpNo X.here hx rfl hd rfl rfl rfl (decide_eq_false fun z => z (congrArg Value.ref q)) kk) (g2 q)
  · exact own_by (fun t kk => XT.acmpYes X.here hx rfl (pc0 := pc) (pc' := pc') rfl hd rfl rfl rfl (decide_eq_true fun z => q (Value.ref.inj z)) ho hp kk) (g1 q)
theorem own_eqI {args : Array Value} {t : Term} {x : Int32} (h : (Cond.eq t (.int x)).value args s none s [] = some true) : t.eval args s none [] s = some (.int x) := by
  have q : (Term.int x).eval args s none [] s = some (.int x) := rfl
  cases ht : t.eval args s none [] s with
  | none => simp [Cond.value, ht] at h
  | some w => cases w <;> simp [Cond.value, ht, q] at h <;> (try subst h) <;> simp_all
theorem own_enumF {args : Array Value} {C f d O nm dd : String} {a : Addr} {x : Int32} (ev : (Term.static C f d).eval args s none [] s = some (.ref a)) (h : (Cond.eq (Term.field (Term.static C f d) O nm dd) (.int x)).value args s none s [] = some true) : Fld s s.heap a O nm dd (.int x) :=
  Fld.start ((fld_at ev).symm.trans (own_eqI h))
theorem own_Sta_keep {Z : State} {h h' : Heap} {C n d : String} {v : Value} {ws : List Addr} (F : Sta Z h C n d v) (K : Keep h h' ws) (q : ∀ x ∈ ws, ∀ cell : Cell, h[x]? = some cell → cell.vm.isStatics = false) : Sta Z h' C n d v := by
  obtain ⟨cf, i, k, f, st, cell, h1, h2, h3, h4, h5, h6, h7⟩ := F
  exact ⟨cf, i, k, f, st, cell, h1, h2, h3, h4, K.2.1 st cell h5 (fun z => by rw [q st z cell h5] at h6; cases h6), h6, h7⟩
end OwnMore
section OwnWide
variable {p : Program} {l : Launch} {e : Env} {R : Room} {s : State} {vm0 : Vm} {k0 : Nat} {m : MethodId} {args : Array Value} {below : List Frame} {meth : Method} {c : Code} {T T' : State} {locs : List Loc} {cells slots : Nat} {Q : Option Value → Heap → List Loc → Prop} {k n : Nat} {Fin : Outcome → State → Prop} {Z : State} {a0 : Array Value} {h : Heap} {pc : Nat} {Ls : Array Slot} {rest : List Value}
theorem own_ret_w (X : Stand p l e R (s.setVm vm0) m args below meth c T locs cells slots) (hx : p.tables.exec = Jvm.exec) (hS : s.Since vm0 k0) (hk0 : k0 ≤ h.size) (hlk : meth.locks = false) {w : Value} {t : FieldType} {i : Instr} (hret : meth.sig.returnType = some t)
    (hi : (i = .ireturn ∧ (t = .int ∨ t = .boolean ∨ t = .byte ∨ t = .char ∨ t = .short) ∧ ∃ z, w = .int z) ∨ (i = .lreturn ∧ t = .long ∧ ∃ z, w = .long z) ∨ (i = .dreturn ∧ t = .double ∧ ∃ z, w = .double z) ∨ (i = .freturn ∧ t = .float ∧ ∃ z, w = .float z) ∨ (i = .areturn ∧ t.isReference = true ∧ w.isRef = true))
    (hn : narrow t w = w) (hd : decode c.code pc = .ok (i, 1)) (eT : T.heap = h) (hk : cells ≤ k) (hs : slots ≤ n) (q : Q (some w) h locs) : own_Go p e below (own_FinW s Q k n) T (mkF m pc Ls (w :: rest)) := by
  obtain ⟨fs, hr, hrun, hended, hE⟩ := X.leaveW hS (by rw [eT]; exact hk0) (v := some w) (fun h => by rw [hret] at h; cases h) hlk
  refine ⟨_, _, retOut X hx hret hn hi hd hr, hrun, hended, _, _, rfl, ?_, hE.1, hE.2.1, hE.2.2.1, hE.2.2.2.mono hk hs⟩
  show Q _ T.heap _
  rw [eT]; exact q
theorem own_retIw (X : Stand p l e R (s.setVm vm0) m args below meth c T locs cells slots) (hx : p.tables.exec = Jvm.exec) (hS : s.Since vm0 k0) (hk0 : k0 ≤ h.size) (hlk : meth.locks = false) {z : Int32} (hret : meth.sig.returnType = some .int) (hd : decode c.code pc = .ok (.ireturn, 1)) (eT : T.heap = h) (hk : cells ≤ k) (hs : slots ≤ n) (q : Q (some (.int z)) h locs) : own_Go p e below (own_FinW s Q k n) T (mkF m pc Ls (.int z :: rest)) :=
  own_ret_w X hx hS hk0 hlk hret (Or.inl ⟨rfl, Or.inl rfl, z, rfl⟩) rfl hd eT hk hs q
theorem own_retZw (X : Stand p l e R (s.setVm vm0) m args below meth c T locs cells slots) (hx : p.tables.exec = Jvm.exec) (hS : s.Since vm0 k0) (hk0 : k0 ≤ h.size) (hlk : meth.locks = false) {z : Int32} (hret : meth.sig.returnType = some .boolean) (hz : z = 0 ∨ z = 1) (hd : decode c.code pc = .ok (.ireturn, 1)) (eT : T.heap = h) (hk : cells ≤ k) (hs : slots ≤ n) (q : Q (some (.int z)) h locs) : own_Go p e below (own_FinW s Q k n) T (mkF m pc Ls (.int z :: rest)) :=
  own_ret_w X hx hS hk0 hlk hret (Or.inl ⟨rfl, Or.inr (Or.inl rfl), z, rfl⟩) (by rcases hz with rfl | rfl <;> rfl) hd eT hk hs q
theorem own_retRw (X : Stand p l e R (s.setVm vm0) m args below meth c T locs cells slots) (hx : p.tables.exec = Jvm.exec) (hS : s.Since vm0 k0) (hk0 : k0 ≤ h.size) (hlk : meth.locks = false) {w : Value} {t : FieldType} (hret : meth.sig.returnType = some t) (ht : t.isReference = true) (hw : w.isRef = true) (hn : narrow t w = w) (hd : decode c.code pc = .ok (.areturn, 1)) (eT : T.heap = h) (hk : cells ≤ k) (hs : slots ≤ n) (q : Q (some w) h locs) : own_Go p e below (own_FinW s Q k n) T (mkF m pc Ls (w :: rest)) :=
  own_ret_w X hx hS hk0 hlk hret (Or.inr (Or.inr (Or.inr (Or.inr ⟨rfl, ht, hw⟩)))) hn hd eT hk hs q
/-- ldc of a String constant: it hands out some object -/
theorem own_ldcS (X : Stand p l e R (s.setVm vm0) m args below meth c T locs cells slots) (hx : p.tables.exec = Jvm.exec) (hZ : Z.Warmed39 vm0) {own text : String} {index : Nat} (hown : vm0.findClass own = some m.cls) (w : (Cond.stringLink own index text).before a0 Z = true) (wS : ∀ a ∈ Bundle.stringAtoms, a.before a0 Z = true) (eT : T.heap = h) (hS : s.Since vm0 k0) (hk : k0 ≤ h.size) (hd : decode c.code pc = .ok (.ldc index, 2)) (nn : Nat) (hn : 4 * text.toList.length ≤ nn) (hbig : nn ≤ 536870912) (hc : cells + 2 ≤ R.cells) (hl : slots + (nn + 4) ≤ R.slots) {st0 : List Value}
    (g : ∀ (a : Addr) (T' : State) (h' : Heap) (k1 : Nat), Stand p l e R (s.setVm T'.vm) m args below meth c T' locs (cells + 2) (slots + (nn + 4)) → T'.heap = h' → Ext h h' → s.Since T'.vm k1 → k1 ≤ h'.size → Z.Warmed39 (s.setVm T'.vm).vm → (s.setVm T'.vm).vm.findClass own = some m.cls → own_Go p e below Fin T' (mkF m (pc + 2) Ls (.ref a :: st0))) : own_Go p e below Fin T (mkF m pc Ls st0) := by
  obtain ⟨a, T', h', k1, X', e', E', S', k', Z', o', st⟩ := ldcS X hx hZ hown w wS eT hS hk (g := mkF m pc Ls st0) rfl hd (n := nn) hn hbig hc hl
  exact own_by (fun t kk => st _ kk) (g a T' h' k1 X' e' E' S' k' Z' o')
end OwnWide
theorem pn_2 : plainName "java/lang/Record" = true := by first | (simp [plainName, overriddenIn]; done) | decide +kernel
theorem d2_0 : decode jdk_30_method_1_code 0 = .ok (.aload_n 0, 1) := by decide +kernel
theorem d2_1 : decode jdk_30_method_1_code 1 = .ok (.invokespecial 1, 3) := by decide +kernel
theorem d2_4 : decode jdk_30_method_1_code 4 = .ok (.return_, 1) := by decide +kernel
theorem pn_1 : plainName "com/example/restate/restate/Ordinal" = true := by first | (simp [plainName, overriddenIn]; done) | decide +kernel
theorem d1_0 : decode prog_35_method_1_code 0 = .ok (.aload_n 0, 1) := by decide +kernel
theorem d1_1 : decode prog_35_method_1_code 1 = .ok (.invokespecial 1, 3) := by decide +kernel
theorem pd_1 : parseMethodDescriptor "()V" = some ⟨[], none⟩ := by decide +kernel
theorem d1_4 : decode prog_35_method_1_code 4 = .ok (.aload_n 0, 1) := by decide +kernel
theorem d1_5 : decode prog_35_method_1_code 5 = .ok (.aload_n 1, 1) := by decide +kernel
theorem d1_6 : decode prog_35_method_1_code 6 = .ok (.putfield 7, 3) := by decide +kernel
theorem d1_9 : decode prog_35_method_1_code 9 = .ok (.aload_n 0, 1) := by decide +kernel
theorem d1_10 : decode prog_35_method_1_code 10 = .ok (.iload_n 2, 1) := by decide +kernel
theorem d1_11 : decode prog_35_method_1_code 11 = .ok (.putfield 13, 3) := by decide +kernel
theorem d1_14 : decode prog_35_method_1_code 14 = .ok (.return_, 1) := by decide +kernel
theorem d5_0 : decode prog_35_method_4_code 0 = .ok (.aload_n 0, 1) := by decide +kernel
theorem d5_1 : decode prog_35_method_4_code 1 = .ok (.getfield 13, 3) := by decide +kernel
theorem d5_4 : decode prog_35_method_4_code 4 = .ok (.ifCond .le 7, 3) := by decide +kernel
theorem d5_11 : decode prog_35_method_4_code 11 = .ok (.iconst 0, 1) := by decide +kernel
theorem d5_12 : decode prog_35_method_4_code 12 = .ok (.ireturn, 1) := by decide +kernel
theorem d5_7 : decode prog_35_method_4_code 7 = .ok (.iconst 1, 1) := by decide +kernel
theorem d5_8 : decode prog_35_method_4_code 8 = .ok (.goto 4, 3) := by decide +kernel
theorem d4_0 : decode prog_35_method_3_code 0 = .ok (.aload_n 0, 1) := by decide +kernel
theorem d4_1 : decode prog_35_method_3_code 1 = .ok (.invokevirtual 54, 3) := by decide +kernel
theorem pd_3 : parseMethodDescriptor "()Z" = some ⟨[], some .boolean⟩ := by decide +kernel
theorem d4_4 : decode prog_35_method_3_code 4 = .ok (.ifCond .eq 12, 3) := by decide +kernel
theorem d4_16 : decode prog_35_method_3_code 16 = .ok (.iload_n 1, 1) := by decide +kernel
theorem d4_17 : decode prog_35_method_3_code 17 = .ok (.aload_n 0, 1) := by decide +kernel
theorem d4_18 : decode prog_35_method_3_code 18 = .ok (.getfield 13, 3) := by decide +kernel
theorem d4_21 : decode prog_35_method_3_code 21 = .ok (.iadd, 1) := by decide +kernel
theorem d4_22 : decode prog_35_method_3_code 22 = .ok (.istore_n 2, 1) := by decide +kernel
theorem d4_23 : decode prog_35_method_3_code 23 = .ok (.iload_n 2, 1) := by decide +kernel
theorem d4_24 : decode prog_35_method_3_code 24 = .ok (.ifCond .lt 12, 3) := by decide +kernel
theorem d4_36 : decode prog_35_method_3_code 36 = .ok (.iconst (-1), 1) := by decide +kernel
theorem d4_37 : decode prog_35_method_3_code 37 = .ok (.ireturn, 1) := by decide +kernel
theorem d4_27 : decode prog_35_method_3_code 27 = .ok (.iload_n 2, 1) := by decide +kernel
theorem d4_28 : decode prog_35_method_3_code 28 = .ok (.iload_n 1, 1) := by decide +kernel
theorem d4_29 : decode prog_35_method_3_code 29 = .ok (.if_icmp .ge 7, 3) := by decide +kernel
theorem d4_32 : decode prog_35_method_3_code 32 = .ok (.iload_n 2, 1) := by decide +kernel
theorem d4_33 : decode prog_35_method_3_code 33 = .ok (.goto 4, 3) := by decide +kernel
theorem d4_7 : decode prog_35_method_3_code 7 = .ok (.aload_n 0, 1) := by decide +kernel
theorem d4_8 : decode prog_35_method_3_code 8 = .ok (.getfield 13, 3) := by decide +kernel
theorem d4_11 : decode prog_35_method_3_code 11 = .ok (.iconst 1, 1) := by decide +kernel
theorem d4_12 : decode prog_35_method_3_code 12 = .ok (.isub, 1) := by decide +kernel
theorem d4_13 : decode prog_35_method_3_code 13 = .ok (.goto 9, 3) := by decide +kernel
theorem pn_0 : plainName "com/example/restate/restate/OrdinalIndexPinLaw" = true := by first | (simp [plainName, overriddenIn]; done) | decide +kernel
theorem d6_0 : decode method_2_code 0 = .ok (.iload_n 0, 1) := by decide +kernel
theorem d6_1 : decode method_2_code 1 = .ok (.ifCond .le 21, 3) := by decide +kernel
theorem d6_22 : decode method_2_code 22 = .ok (.iload_n 0, 1) := by decide +kernel
theorem d6_23 : decode method_2_code 23 = .ok (.i2l, 1) := by decide +kernel
theorem d6_24 : decode method_2_code 24 = .ok (.lneg, 1) := by decide +kernel
theorem d6_25 : decode method_2_code 25 = .ok (.lstore_n 2, 1) := by decide +kernel
theorem d6_26 : decode method_2_code 26 = .ok (.lload_n 2, 1) := by decide +kernel
theorem d6_27 : decode method_2_code 27 = .ok (.iload_n 1, 1) := by decide +kernel
theorem d6_28 : decode method_2_code 28 = .ok (.i2l, 1) := by decide +kernel
theorem d6_29 : decode method_2_code 29 = .ok (.lcmp, 1) := by decide +kernel
theorem d6_30 : decode method_2_code 30 = .ok (.ifCond .gt 8, 3) := by decide +kernel
theorem d6_38 : decode method_2_code 38 = .ok (.ldc2_w 7, 3) := by decide +kernel
theorem d6_41 : decode method_2_code 41 = .ok (.lreturn, 1) := by decide +kernel
theorem d6_33 : decode method_2_code 33 = .ok (.iload_n 1, 1) := by decide +kernel
theorem d6_34 : decode method_2_code 34 = .ok (.i2l, 1) := by decide +kernel
theorem d6_35 : decode method_2_code 35 = .ok (.lload_n 2, 1) := by decide +kernel
theorem d6_36 : decode method_2_code 36 = .ok (.lsub, 1) := by decide +kernel
theorem d6_37 : decode method_2_code 37 = .ok (.lreturn, 1) := by decide +kernel
theorem d6_4 : decode method_2_code 4 = .ok (.iload_n 0, 1) := by decide +kernel
theorem d6_5 : decode method_2_code 5 = .ok (.i2l, 1) := by decide +kernel
theorem d6_6 : decode method_2_code 6 = .ok (.lstore_n 2, 1) := by decide +kernel
theorem d6_7 : decode method_2_code 7 = .ok (.lload_n 2, 1) := by decide +kernel
theorem d6_8 : decode method_2_code 8 = .ok (.iload_n 1, 1) := by decide +kernel
theorem d6_9 : decode method_2_code 9 = .ok (.i2l, 1) := by decide +kernel
theorem d6_10 : decode method_2_code 10 = .ok (.lcmp, 1) := by decide +kernel
theorem d6_11 : decode method_2_code 11 = .ok (.ifCond .gt 7, 3) := by decide +kernel
theorem d6_18 : decode method_2_code 18 = .ok (.ldc2_w 7, 3) := by decide +kernel
theorem d6_21 : decode method_2_code 21 = .ok (.lreturn, 1) := by decide +kernel
theorem d6_14 : decode method_2_code 14 = .ok (.lload_n 2, 1) := by decide +kernel
theorem d6_15 : decode method_2_code 15 = .ok (.lconst 1, 1) := by decide +kernel
theorem d6_16 : decode method_2_code 16 = .ok (.lsub, 1) := by decide +kernel
theorem d6_17 : decode method_2_code 17 = .ok (.lreturn, 1) := by decide +kernel
theorem pd_0 : parseMethodDescriptor "(Ljava/lang/String;I)V" = some ⟨[(.object "java/lang/String"), .int], none⟩ := by decide +kernel
theorem pd_2 : parseMethodDescriptor "(I)I" = some ⟨[.int], some .int⟩ := by decide +kernel
theorem pd_4 : parseMethodDescriptor "(II)J" = some ⟨[.int, .int], some .long⟩ := by decide +kernel
def own_fs (p : Int32) : Int32 := if 0 < p then 1 else 0
def own_t (p c : Int32) : Int32 := if 0 < p then p - 1 else c + p
def own_ix (p c : Int32) : Int32 := if own_t p c < 0 then -1 else if own_t p c < c then own_t p c else -1
def own_exp (p c : Int32) : Int64 := if 0 < p then (if 0 < XT.cmpL p.toInt64 c.toInt64 then -1 else p.toInt64 - 1) else (if 0 < XT.cmpL (-p.toInt64) c.toInt64 then -1 else c.toInt64 - (-p.toInt64))
theorem own_cgt (x y : Int64) : 0 < XT.cmpL x y ↔ y.toInt < x.toInt := by
  unfold XT.cmpL
  rw [← Int64.lt_iff_toInt_lt]
  by_cases h : y < x
  · simp [h]
  · by_cases h' : x = y <;> simp [h, h'] <;> decide
theorem own_ceq (x y : Int64) (h : x = y) : XT.cmpL x y = 0 := by
  subst h
  unfold XT.cmpL
  have q : ¬ x < x := by rw [Int64.lt_iff_toInt_lt]; omega
  simp [q]
theorem own_cnn (c : Int32) : 0 ≤ (c &&& 2147483647).toInt := by
  have e1 : (c &&& 2147483647).toInt = c.toInt % 2 ^ 31 := Jvm.Kit.i32_mask c 2147483647 (k := 31) (by decide) (by decide)
  omega
theorem own_main (p c : Int32) (hp : ¬ p = 0) (hc : 0 ≤ c.toInt) : (own_ix p c).toInt64 = own_exp p c := by
  have k0 : (0 : Int32).toInt = 0 := by decide
  have k1 : (1 : Int32).toInt = 1 := by decide
  have km : (-1 : Int32).toInt = -1 := by decide
  have j1 : (1 : Int64).toInt = 1 := by decide
  have jm : (-1 : Int64).toInt = -1 := by decide
  have hp' : p.toInt ≠ 0 := fun q => hp (Int32.toInt_inj.mp (by rw [k0]; exact q))
  have b1 := p.toInt_lt; have b2 := p.le_toInt; have b3 := c.toInt_lt
  have e1 : p.toInt64.toInt = p.toInt := Jvm.Kit.i64_of_i32 p
  have e2 : c.toInt64.toInt = c.toInt := Jvm.Kit.i64_of_i32 c
  have e3 : (-p.toInt64).toInt = -p.toInt := by rw [Jvm.Kit.i64_neg (by omega), e1]
  apply Int64.toInt_inj.mp
  rw [Jvm.Kit.i64_of_i32]
  by_cases h : 0 < p
  · have h' := Int32.lt_iff_toInt_lt.mp h
    rw [k0] at h'
    have et : (own_t p c).toInt = p.toInt - 1 := by
      rw [own_t, if_pos h, Jvm.Kit.i32_sub (by omega) (by omega), k1]
    have ee : own_exp p c = if 0 < XT.cmpL p.toInt64 c.toInt64 then -1 else p.toInt64 - 1 := by rw [own_exp, if_pos h]
    have n0 : ¬ own_t p c < 0 := by rw [Int32.lt_iff_toInt_lt, et, k0]; omega
    rw [ee, own_ix, if_neg n0]
    by_cases g : own_t p c < c
    · have g' := Int32.lt_iff_toInt_lt.mp g
      have q : ¬ 0 < XT.cmpL p.toInt64 c.toInt64 := by rw [own_cgt, e1, e2]; omega
      rw [if_pos g, if_neg q, et, Jvm.Kit.i64_sub (by omega) (by omega), e1, j1]
    · have g' : ¬ (own_t p c).toInt < c.toInt := fun z => g (Int32.lt_iff_toInt_lt.mpr z)
      have q : 0 < XT.cmpL p.toInt64 c.toInt64 := by rw [own_cgt, e1, e2]; omega
      rw [if_neg g, if_pos q, km, jm]
  · have h' : ¬ (0 : Int32).toInt < p.toInt := fun z => h (Int32.lt_iff_toInt_lt.mpr z)
    rw [k0] at h'
    have et : (own_t p c).toInt = c.toInt + p.toInt := by
      rw [own_t, if_neg h, Jvm.Kit.i32_add (by omega) (by omega)]
    have ee : own_exp p c = if 0 < XT.cmpL (-p.toInt64) c.toInt64 then -1 else c.toInt64 - (-p.toInt64) := by rw [own_exp, if_neg h]
    rw [ee, own_ix]
    by_cases g : own_t p c < 0
    · have g' := Int32.lt_iff_toInt_lt.mp g
      rw [k0] at g'
      have q : 0 < XT.cmpL (-p.toInt64) c.toInt64 := by rw [own_cgt, e3, e2]; omega
      rw [if_pos g, if_pos q, km, jm]
    · have g' : ¬ (own_t p c).toInt < (0 : Int32).toInt := fun z => g (Int32.lt_iff_toInt_lt.mpr z)
      rw [k0] at g'
      have g2 : own_t p c < c := by rw [Int32.lt_iff_toInt_lt, et]; omega
      have q : ¬ 0 < XT.cmpL (-p.toInt64) c.toInt64 := by rw [own_cgt, e3, e2]; omega
      rw [if_neg g, if_pos g2, if_neg q, et, Jvm.Kit.i64_sub (by omega) (by omega), e2, e3]; omega
def Q1 (Z : State) (a1 : Addr) (p3 : Int32) (h0 : Heap) (n0 : Nat) (v : Option Value) (h : Heap) (L : List Loc) : Prop := v = none ∧ Fr n0 L ∧ Keep h0 h [a1] ∧ Exa Z h a1 "com/example/restate/restate/Ordinal" ∧ Fld Z h a1 "com/example/restate/restate/Ordinal" "place" "I" (.int p3)
def Q2 (h0 : Heap) (n0 : Nat) (v : Option Value) (h : Heap) (L : List Loc) : Prop := v = none ∧ Fr n0 L ∧ h = h0
def Q4 (p c : Int32) (h0 : Heap) (n0 : Nat) (v : Option Value) (h : Heap) (L : List Loc) : Prop := v = some (.int (own_ix p c)) ∧ Fr n0 L ∧ h = h0
def Q5 (p : Int32) (h0 : Heap) (n0 : Nat) (v : Option Value) (h : Heap) (L : List Loc) : Prop := v = some (.int (own_fs p)) ∧ Fr n0 L ∧ h = h0
def Q6 (p c : Int32) (h0 : Heap) (n0 : Nat) (v : Option Value) (h : Heap) (L : List Loc) : Prop := v = some (.long (own_exp p c)) ∧ Fr n0 L ∧ h = h0
def Q0 (n0 : Nat) (v : Option Value) (h : Heap) (L : List Loc) : Prop := v = some (.int (1 : Int32)) ∧ Fr n0 L
theorem own_strs {Z : State} {a0 : Array Value} (hw : ∀ d ∈ tables_1, d.before a0 Z = true) : ∀ a ∈ Bundle.stringAtoms, a.before a0 Z = true := by
  intro a ha
  simp only [Bundle.stringAtoms, List.mem_cons, List.not_mem_nil, or_false] at ha
  rcases ha with rfl | rfl | rfl | rfl | rfl | rfl | rfl
  · exact (hw _ (List.mem_of_getElem? (i := 5) rfl))
  · exact (hw _ (List.mem_of_getElem? (i := 6) rfl))
  · exact (hw _ (List.mem_of_getElem? (i := 7) rfl))
  · exact (hw _ (List.mem_of_getElem? (i := 8) rfl))
  · exact (hw _ (List.mem_of_getElem? (i := 9) rfl))
  · exact (hw _ (List.mem_of_getElem? (i := 10) rfl))
  · exact (hw _ (List.mem_of_getElem? (i := 11) rfl))
theorem ef_2 (m : MethodId) (a1 : Addr) : entryFrame m #[(.ref a1)] 1 = mkF m 0 #[.val (.ref a1)] [] := by first | (simp [entryFrame, mkF, argsToLocals, Value.category]; done) | rfl
set_option maxRecDepth 65536 in
set_option maxHeartbeats 40000000 in
theorem rm2 (l : Launch) (Z : State) (a0 : Array Value) (hw : ∀ d ∈ tables_1, d.before a0 Z = true) (ws : List Jvm.Cond) (a1 : Addr) (h0 : Heap) (n0 : Nat) (Z0 : n0 ≤ h0.size) :
    MetFree l (⟨"java/lang/Record", "<init>", "()V"⟩ : MethodName) (head1 (Jvm.Cond.code (⟨"java/lang/Record", "<init>", "()V"⟩ : MethodName) jdk_30_method_1_code 1 none :: ws) ({ frames := 1, cells := 0, slots := 0, locals := 12 } : Room)) (fun a U => a = #[(.ref a1)] ∧ Z.Warmed39 U.vm ∧ U.heap = h0) (fun _ _ _ _ _ => True) (fun _ U o U' => ∃ v L, o = .returned v ∧ Q2 h0 n0 v U'.heap L ∧ FrameEnd U o U' L ({ frames := 1, cells := 0, slots := 0, locals := 12 } : Room).cells ({ frames := 1, cells := 0, slots := 0, locals := 12 } : Room).slots) := by
  refine MetFree.of_bodySF (plainFor_of_name pn_2) hisR ?_
  intro p e s m args below meth c s₁ Bd hml0 hP hK
  obtain ⟨rfl, hZ, hh⟩ := hP
  have hx := Bd.exec
  have hby := Bd.bytes
  have hml : c.maxLocals = 1 := hml0
  have hown : s.vm.findClass "java/lang/Record" = some m.cls := findClass_of_methodNamed Bd.named
  have hnm := (name_of_methodNamed Bd.named Bd.method).1
  have hlk : meth.locks = false := BodyLoose.notSynchronized Bd
  have X0 : Stand p l e ({ frames := 1, cells := 0, slots := 0, locals := 12 } : Room) s m #[(.ref a1)] below meth c s₁ [] 0 0 := Stand.of_body Bd
  have e0 : s₁.heap = h0 := by rw [← hh, Bd.state]; rfl
  have N0 := Fr.nil n0
  refine own_start (Q := Q2 h0 n0) (ef_2 m a1) ?_
  show own_Go p e below _ s₁ (mkF m 0 #[.val (.ref a1)] [])
  refine own_by (fun t_ k_ => XS.aloadN X0.here hx rfl (hb hby d2_0) rfl rfl k_) ?_
  show own_Go p e below _ s₁ (mkF m 1 #[.val (.ref a1)] [(.ref a1)])
  refine own_initO X0 hx hZ hown (hw _ (List.mem_of_getElem? (i := 20) rfl)) (hw _ (List.mem_of_getElem? (i := 21) rfl)) (hw _ (List.mem_of_getElem? (i := 22) rfl)) e0 (by rw [hml]; rfl) (hb hby d2_1) (by decide) (W := 0) (Nat.le_of_eq rfl) (by decide) ?_
  intro T1 X1 e1
  show own_Go p e below _ T1 (mkF m 4 #[.val (.ref a1)] [])
  refine own_retV X1 hx hlk Bd.returns (hb hby d2_4) e1 (by decide) (by decide) ?_
  exact ⟨rfl, N0, rfl⟩
theorem ef_1 (m : MethodId) (a1 : Addr) (a2 : Addr) (p3 : Int32) : entryFrame m #[(.ref a1), (.ref a2), (.int p3)] 3 = mkF m 0 #[.val (.ref a1), .val (.ref a2), .val (.int p3)] [] := by first | (simp [entryFrame, mkF, argsToLocals, Value.category]; done) | rfl
set_option maxRecDepth 65536 in
set_option maxHeartbeats 40000000 in
theorem rm1 (l : Launch) (Z : State) (a0 : Array Value) (hw : ∀ d ∈ tables_1, d.before a0 Z = true) (ws : List Jvm.Cond) (a1 : Addr) (a2 : Addr) (p3 : Int32) (h0 : Heap) (n0 : Nat) (Z0 : n0 ≤ h0.size) (E_a1 : Exa Z h0 a1 "com/example/restate/restate/Ordinal") (F_word : Fld Z h0 a1 "com/example/restate/restate/Ordinal" "word" "Ljava/lang/String;" .null) (F_place : Fld Z h0 a1 "com/example/restate/restate/Ordinal" "place" "I" (.int (0 : Int32))) (g_a1 : n0 ≤ a1) :
    MetFree l (⟨"com/example/restate/restate/Ordinal", "<init>", "(Ljava/lang/String;I)V"⟩ : MethodName) (head1 (Jvm.Cond.code (⟨"com/example/restate/restate/Ordinal", "<init>", "(Ljava/lang/String;I)V"⟩ : MethodName) prog_35_method_1_code 3 none :: ws) ({ frames := 2, cells := 0, slots := 0, locals := 24 } : Room)) (fun a U => a = #[(.ref a1), (.ref a2), (.int p3)] ∧ Z.Warmed39 U.vm ∧ U.heap = h0) (fun _ _ _ _ _ => True) (fun _ U o U' => ∃ v L, o = .returned v ∧ Q1 Z a1 p3 h0 n0 v U'.heap L ∧ FrameEnd U o U' L ({ frames := 2, cells := 0, slots := 0, locals := 24 } : Room).cells ({ frames := 2, cells := 0, slots := 0, locals := 24 } : Room).slots) := by
  refine MetFree.of_bodySF (plainFor_of_name pn_1) hisR ?_
  intro p e s m args below meth c s₁ Bd hml0 hP hK
  obtain ⟨rfl, hZ, hh⟩ := hP
  have hx := Bd.exec
  have hby := Bd.bytes
  have hml : c.maxLocals = 3 := hml0
  have hown : s.vm.findClass "com/example/restate/restate/Ordinal" = some m.cls := findClass_of_methodNamed Bd.named
  have hnm := (name_of_methodNamed Bd.named Bd.method).1
  have hlk : meth.locks = false := BodyLoose.notSynchronized Bd
  have X0 : Stand p l e ({ frames := 2, cells := 0, slots := 0, locals := 24 } : Room) s m #[(.ref a1), (.ref a2), (.int p3)] below meth c s₁ [] 0 0 := Stand.of_body Bd
  have e0 : s₁.heap = h0 := by rw [← hh, Bd.state]; rfl
  have N0 := Fr.nil n0
  refine own_start (Q := Q1 Z a1 p3 h0 n0) (ef_1 m a1 a2 p3) ?_
  have K0 := Keep.refl h0 [a1]
  show own_Go p e below _ s₁ (mkF m 0 #[.val (.ref a1), .val (.ref a2), .val (.int p3)] [])
  refine own_by (fun t_ k_ => XS.aloadN X0.here hx rfl (hb hby d1_0) rfl rfl k_) ?_
  show own_Go p e below _ s₁ (mkF m 1 #[.val (.ref a1), .val (.ref a2), .val (.int p3)] [(.ref a1)])
  refine own_callC (W := 0) X0 hx hZ (y := (⟨"java/lang/Record", "<init>", "()V"⟩ : MethodName)) rfl hown (hw _ (List.mem_of_getElem? (i := 15) rfl)) (hw _ (List.mem_of_getElem? (i := 16) rfl)) (hw _ (List.mem_of_getElem? (i := 18) rfl)) (hw _ (List.mem_of_getElem? (i := 19) rfl)) (by decide) (by rw [hml]; rfl) (argsL := []) pd_1 rfl (a := a1) (rm2 l Z a0 hw [] a1 h0 n0 Z0) (by decide) (by decide) (Nat.le_of_eq rfl) (by decide) (by decide) (rest := []) e0 rfl (hb hby d1_1) ?_
  intro v1 T1 L1 X1 hQ1
  obtain ⟨rfl, N1q, e1⟩ := hQ1
  have N1 := Fr.app N0 N1q
  show own_Go p e below _ T1 (mkF m 4 #[.val (.ref a1), .val (.ref a2), .val (.int p3)] [])
  refine own_by (fun t_ k_ => XS.aloadN X1.here hx rfl (hb hby d1_4) rfl rfl k_) ?_
  show own_Go p e below _ T1 (mkF m 5 #[.val (.ref a1), .val (.ref a2), .val (.int p3)] [(.ref a1)])
  refine own_by (fun t_ k_ => XS.aloadN X1.here hx rfl (hb hby d1_5) rfl rfl k_) ?_
  show own_Go p e below _ T1 (mkF m 6 #[.val (.ref a1), .val (.ref a2), .val (.int p3)] [(.ref a2), (.ref a1)])
  refine own_putF X1 hx hZ hown (hw _ (List.mem_of_getElem? (i := 23) rfl)) Via.refl e1 F_word E_a1 (Or.inr ⟨(hw _ (List.mem_of_getElem? (i := 24) rfl)), rfl, hnm⟩) (hw _ (List.mem_of_getElem? (i := 2) rfl)) (ty := (.object "java/lang/String")) (by decide) rfl rfl (hb hby d1_6) ?_
  intro T2 h2 X2 e2 W2
  have F2 := Fld.same W2 F_word
  have N2 := Fr.snoc X2 N1 g_a1
  have sz2 : n0 ≤ h2.size := Nat.le_trans Z0 (Keep.of_wr W2).1
  have K2 : Keep h0 h2 [a1] := K0.wr W2 (Or.inl (List.mem_cons_self ..))
  show own_Go p e below _ T2 (mkF m 9 #[.val (.ref a1), .val (.ref a2), .val (.int p3)] [])
  refine own_by (fun t_ k_ => XS.aloadN X2.here hx rfl (hb hby d1_9) rfl rfl k_) ?_
  show own_Go p e below _ T2 (mkF m 10 #[.val (.ref a1), .val (.ref a2), .val (.int p3)] [(.ref a1)])
  refine own_by (fun t_ k_ => XS.iloadN X2.here hx rfl (hb hby d1_10) rfl k_) ?_
  show own_Go p e below _ T2 (mkF m 11 #[.val (.ref a1), .val (.ref a2), .val (.int p3)] [(.int p3), (.ref a1)])
  have F_place_4 : Fld Z h2 a1 "com/example/restate/restate/Ordinal" "place" "I" (.int (0 : Int32)) := (Fld.other W2 F_place (Or.inr (slot_ne (Or.inr (hw _ (List.mem_of_getElem? (i := 26) rfl))) (Or.inr (hw _ (List.mem_of_getElem? (i := 24) rfl))) (by decide) (t := .int) (t' := (.object "java/lang/String")) (by decide) (by decide))))
  have E_a1_5 : Exa Z h2 a1 "com/example/restate/restate/Ordinal" := (Exa.wr W2 E_a1)
  refine own_putF X2 hx hZ hown (hw _ (List.mem_of_getElem? (i := 25) rfl)) Via.refl e2 F_place_4 E_a1_5 (Or.inr ⟨(hw _ (List.mem_of_getElem? (i := 26) rfl)), rfl, hnm⟩) (hw _ (List.mem_of_getElem? (i := 2) rfl)) (ty := .int) (by decide) rfl rfl (hb hby d1_11) ?_
  intro T3 h3 X3 e3 W3
  have F3 := Fld.same W3 F_place_4
  have N3 := Fr.snoc X3 N2 g_a1
  have sz3 : n0 ≤ h3.size := Nat.le_trans sz2 (Keep.of_wr W3).1
  have K3 : Keep h0 h3 [a1] := K2.wr W3 (Or.inl (List.mem_cons_self ..))
  show own_Go p e below _ T3 (mkF m 14 #[.val (.ref a1), .val (.ref a2), .val (.int p3)] [])
  refine own_retV X3 hx hlk Bd.returns (hb hby d1_14) e3 (by decide) (by decide) ?_
  have E_a1_6 : Exa Z h3 a1 "com/example/restate/restate/Ordinal" := (Exa.wr W3 E_a1_5)
  exact ⟨rfl, N3, K3, E_a1_6, F3⟩
theorem ef_5 (m : MethodId) (a1 : Addr) : entryFrame m #[(.ref a1)] 1 = mkF m 0 #[.val (.ref a1)] [] := by first | (simp [entryFrame, mkF, argsToLocals, Value.category]; done) | rfl
set_option maxRecDepth 65536 in
set_option maxHeartbeats 40000000 in
theorem rm5 (l : Launch) (Z : State) (a0 : Array Value) (hw : ∀ d ∈ tables_1, d.before a0 Z = true) (ws : List Jvm.Cond) (a1 : Addr) (pl : Int32) (h0 : Heap) (n0 : Nat) (Z0 : n0 ≤ h0.size) (E_a1 : Exa Z h0 a1 "com/example/restate/restate/Ordinal") (F_place : Fld Z h0 a1 "com/example/restate/restate/Ordinal" "place" "I" (.int pl)) :
    MetFree l (⟨"com/example/restate/restate/Ordinal", "fromStart", "()Z"⟩ : MethodName) (head1 (Jvm.Cond.code (⟨"com/example/restate/restate/Ordinal", "fromStart", "()Z"⟩ : MethodName) prog_35_method_4_code 1 (some .boolean) :: ws) ({ frames := 0, cells := 0, slots := 0, locals := 0 } : Room)) (fun a U => a = #[(.ref a1)] ∧ Z.Warmed39 U.vm ∧ U.heap = h0) (fun _ _ _ _ _ => True) (fun _ U o U' => ∃ v L, o = .returned v ∧ Q5 pl h0 n0 v U'.heap L ∧ FrameEnd U o U' L ({ frames := 0, cells := 0, slots := 0, locals := 0 } : Room).cells ({ frames := 0, cells := 0, slots := 0, locals := 0 } : Room).slots) := by
  refine MetFree.of_bodySF (plainFor_of_name pn_1) hisR ?_
  intro p e s m args below meth c s₁ Bd hml0 hP hK
  obtain ⟨rfl, hZ, hh⟩ := hP
  have hx := Bd.exec
  have hby := Bd.bytes
  have hml : c.maxLocals = 1 := hml0
  have hown : s.vm.findClass "com/example/restate/restate/Ordinal" = some m.cls := findClass_of_methodNamed Bd.named
  have hnm := (name_of_methodNamed Bd.named Bd.method).1
  have hlk : meth.locks = false := BodyLoose.notSynchronized Bd
  have X0 : Stand p l e ({ frames := 0, cells := 0, slots := 0, locals := 0 } : Room) s m #[(.ref a1)] below meth c s₁ [] 0 0 := Stand.of_body Bd
  have e0 : s₁.heap = h0 := by rw [← hh, Bd.state]; rfl
  have N0 := Fr.nil n0
  refine own_start (Q := Q5 pl h0 n0) (ef_5 m a1) ?_
  show own_Go p e below _ s₁ (mkF m 0 #[.val (.ref a1)] [])
  refine own_by (fun t_ k_ => XS.aloadN X0.here hx rfl (hb hby d5_0) rfl rfl k_) ?_
  show own_Go p e below _ s₁ (mkF m 1 #[.val (.ref a1)] [(.ref a1)])
  refine own_getF X0 hx hZ hown (hw _ (List.mem_of_getElem? (i := 25) rfl)) Via.refl e0 F_place (hb hby d5_1) ?_
  intro T1 X1 e1
  show own_Go p e below _ T1 (mkF m 4 #[.val (.ref a1)] [(.int pl)])
  refine own_if X1 hx 11 (hb hby d5_4) (by decide) (by decide) (fun (hc4 : ¬ (0 : Int32) < pl) => ?_) (fun (hc4 : (0 : Int32) < pl) => ?_)
  · show own_Go p e below _ T1 (mkF m 11 #[.val (.ref a1)] [])
    refine own_by (fun t_ k_ => XS.iconst X1.here hx rfl (hb hby d5_11) k_) ?_
    show own_Go p e below _ T1 (mkF m 12 #[.val (.ref a1)] [(.int (0 : Int32))])
    refine own_retZ X1 hx hlk Bd.returns (by decide) (hb hby d5_12) e1 (by decide) (by decide) ?_
    exact ⟨by simp [own_fs, hc4], N0, rfl⟩
  · show own_Go p e below _ T1 (mkF m 7 #[.val (.ref a1)] [])
    refine own_by (fun t_ k_ => XS.iconst X1.here hx rfl (hb hby d5_7) k_) ?_
    show own_Go p e below _ T1 (mkF m 8 #[.val (.ref a1)] [(.int (1 : Int32))])
    refine own_by (fun t_ k_ => XS.goto X1.here hx rfl (pc0 := 8) (pc' := 12) rfl (hb hby d5_8) (by decide) (by decide) k_) ?_
    show own_Go p e below _ T1 (mkF m 12 #[.val (.ref a1)] [(.int (1 : Int32))])
    refine own_retZ X1 hx hlk Bd.returns (by decide) (hb hby d5_12) e1 (by decide) (by decide) ?_
    exact ⟨by simp [own_fs, hc4], N0, rfl⟩
theorem ef_4 (m : MethodId) (a1 : Addr) (p2 : Int32) : entryFrame m #[(.ref a1), (.int p2)] 3 = mkF m 0 #[.val (.ref a1), .val (.int p2), .unset] [] := by first | (simp [entryFrame, mkF, argsToLocals, Value.category]; done) | rfl
set_option maxRecDepth 65536 in
set_option maxHeartbeats 40000000 in
theorem rm4 (l : Launch) (Z : State) (a0 : Array Value) (hw : ∀ d ∈ tables_1, d.before a0 Z = true) (ws : List Jvm.Cond) (a1 : Addr) (p2 : Int32) (pl : Int32) (h0 : Heap) (n0 : Nat) (Z0 : n0 ≤ h0.size) (E_a1 : Exa Z h0 a1 "com/example/restate/restate/Ordinal") (F_place : Fld Z h0 a1 "com/example/restate/restate/Ordinal" "place" "I" (.int pl)) :
    MetFree l (⟨"com/example/restate/restate/Ordinal", "index", "(I)I"⟩ : MethodName) (head1 (Jvm.Cond.code (⟨"com/example/restate/restate/Ordinal", "index", "(I)I"⟩ : MethodName) prog_35_method_3_code 3 (some .int) :: ws) ({ frames := 1, cells := 0, slots := 0, locals := 12 } : Room)) (fun a U => a = #[(.ref a1), (.int p2)] ∧ Z.Warmed39 U.vm ∧ U.heap = h0) (fun _ _ _ _ _ => True) (fun _ U o U' => ∃ v L, o = .returned v ∧ Q4 pl p2 h0 n0 v U'.heap L ∧ FrameEnd U o U' L ({ frames := 1, cells := 0, slots := 0, locals := 12 } : Room).cells ({ frames := 1, cells := 0, slots := 0, locals := 12 } : Room).slots) := by
  refine MetFree.of_bodySF (plainFor_of_name pn_1) hisR ?_
  intro p e s m args below meth c s₁ Bd hml0 hP hK
  obtain ⟨rfl, hZ, hh⟩ := hP
  have hx := Bd.exec
  have hby := Bd.bytes
  have hml : c.maxLocals = 3 := hml0
  have hown : s.vm.findClass "com/example/restate/restate/Ordinal" = some m.cls := findClass_of_methodNamed Bd.named
  have hnm := (name_of_methodNamed Bd.named Bd.method).1
  have hlk : meth.locks = false := BodyLoose.notSynchronized Bd
  have X0 : Stand p l e ({ frames := 1, cells := 0, slots := 0, locals := 12 } : Room) s m #[(.ref a1), (.int p2)] below meth c s₁ [] 0 0 := Stand.of_body Bd
  have e0 : s₁.heap = h0 := by rw [← hh, Bd.state]; rfl
  have N0 := Fr.nil n0
  refine own_start (Q := Q4 pl p2 h0 n0) (ef_4 m a1 p2) ?_
  show own_Go p e below _ s₁ (mkF m 0 #[.val (.ref a1), .val (.int p2), .unset] [])
  refine own_by (fun t_ k_ => XS.aloadN X0.here hx rfl (hb hby d4_0) rfl rfl k_) ?_
  show own_Go p e below _ s₁ (mkF m 1 #[.val (.ref a1), .val (.int p2), .unset] [(.ref a1)])
  refine own_callV (W := 0) X0 hx hZ (y := (⟨"com/example/restate/restate/Ordinal", "fromStart", "()Z"⟩ : MethodName)) (z := (⟨"com/example/restate/restate/Ordinal", "fromStart", "()Z"⟩ : MethodName)) hown (hw _ (List.mem_of_getElem? (i := 32) rfl)) (hw _ (List.mem_of_getElem? (i := 33) rfl)) (notFace_of_selects (args := #[]) (mvT hZ (hw _ (List.mem_of_getElem? (i := 35) rfl)))) (hw _ (List.mem_of_getElem? (i := 35) rfl)) (hw _ (List.mem_of_getElem? (i := 34) rfl)) (hw _ (List.mem_of_getElem? (i := 3) rfl)) (hw _ (List.mem_of_getElem? (i := 36) rfl)) (by decide) (by rw [hml]; rfl) (argsL := []) pd_3 rfl (a := a1) e0 E_a1 (rm5 l Z a0 hw [] a1 pl h0 n0 Z0 E_a1 F_place) (by decide) (by decide) (Nat.le_of_eq rfl) (by decide) (by decide) (rest := []) rfl (hb hby d4_1) ?_
  intro v1 T1 L1 X1 hQ1
  obtain ⟨rfl, N1q, e1⟩ := hQ1
  have N1 := Fr.app N0 N1q
  show own_Go p e below _ T1 (mkF m 4 #[.val (.ref a1), .val (.int p2), .unset] [(.int (own_fs pl))])
  refine own_if X1 hx 16 (hb hby d4_4) (by decide) (by decide) (fun (hc4 : (own_fs pl) = (0 : Int32)) => ?_) (fun (hc4 : ¬ (own_fs pl) = (0 : Int32)) => ?_)
  · have hp0 : ¬ 0 < pl := by unfold own_fs at hc4; intro q; rw [if_pos q] at hc4; exact absurd hc4 (by decide)
    show own_Go p e below _ T1 (mkF m 16 #[.val (.ref a1), .val (.int p2), .unset] [])
    refine own_by (fun t_ k_ => XS.iloadN X1.here hx rfl (hb hby d4_16) rfl k_) ?_
    show own_Go p e below _ T1 (mkF m 17 #[.val (.ref a1), .val (.int p2), .unset] [(.int p2)])
    refine own_by (fun t_ k_ => XS.aloadN X1.here hx rfl (hb hby d4_17) rfl rfl k_) ?_
    show own_Go p e below _ T1 (mkF m 18 #[.val (.ref a1), .val (.int p2), .unset] [(.ref a1), (.int p2)])
    refine own_getF X1 hx hZ hown (hw _ (List.mem_of_getElem? (i := 25) rfl)) Via.refl e1 F_place (hb hby d4_18) ?_
    intro T2 X2 e2
    show own_Go p e below _ T2 (mkF m 21 #[.val (.ref a1), .val (.int p2), .unset] [(.int pl), (.int p2)])
    refine own_by (fun t_ k_ => XS.iadd X2.here hx rfl (hb hby d4_21) rfl k_) ?_
    show own_Go p e below _ T2 (mkF m 22 #[.val (.ref a1), .val (.int p2), .unset] [(.int (p2 + pl))])
    refine own_by (fun t_ k_ => XS.istoreN X2.here hx rfl (hb hby d4_22) rfl (l' := #[.val (.ref a1), .val (.int p2), .val (.int (p2 + pl))]) rfl k_) ?_
    show own_Go p e below _ T2 (mkF m 23 #[.val (.ref a1), .val (.int p2), .val (.int (p2 + pl))] [])
    refine own_by (fun t_ k_ => XS.iloadN X2.here hx rfl (hb hby d4_23) rfl k_) ?_
    show own_Go p e below _ T2 (mkF m 24 #[.val (.ref a1), .val (.int p2), .val (.int (p2 + pl))] [(.int (p2 + pl))])
    refine own_if X2 hx 36 (hb hby d4_24) (by decide) (by decide) (fun (hc24 : (p2 + pl) < (0 : Int32)) => ?_) (fun (hc24 : ¬ (p2 + pl) < (0 : Int32)) => ?_)
    · show own_Go p e below _ T2 (mkF m 36 #[.val (.ref a1), .val (.int p2), .val (.int (p2 + pl))] [])
      refine own_by (fun t_ k_ => XS.iconst X2.here hx rfl (hb hby d4_36) k_) ?_
      show own_Go p e below _ T2 (mkF m 37 #[.val (.ref a1), .val (.int p2), .val (.int (p2 + pl))] [(.int (-1 : Int32))])
      refine own_retI X2 hx hlk Bd.returns (hb hby d4_37) e2 (by decide) (by decide) ?_
      exact ⟨by simp [own_ix, own_t, own_fs, hp0, hc24], N1, rfl⟩
    · show own_Go p e below _ T2 (mkF m 27 #[.val (.ref a1), .val (.int p2), .val (.int (p2 + pl))] [])
      refine own_by (fun t_ k_ => XS.iloadN X2.here hx rfl (hb hby d4_27) rfl k_) ?_
      show own_Go p e below _ T2 (mkF m 28 #[.val (.ref a1), .val (.int p2), .val (.int (p2 + pl))] [(.int (p2 + pl))])
      refine own_by (fun t_ k_ => XS.iloadN X2.here hx rfl (hb hby d4_28) rfl k_) ?_
      show own_Go p e below _ T2 (mkF m 29 #[.val (.ref a1), .val (.int p2), .val (.int (p2 + pl))] [(.int p2), (.int (p2 + pl))])
      refine own_icmp X2 hx 36 (hb hby d4_29) (by decide) (by decide) (fun (hc29 : ¬ (p2 + pl) < p2) => ?_) (fun (hc29 : (p2 + pl) < p2) => ?_)
      · show own_Go p e below _ T2 (mkF m 36 #[.val (.ref a1), .val (.int p2), .val (.int (p2 + pl))] [])
        refine own_by (fun t_ k_ => XS.iconst X2.here hx rfl (hb hby d4_36) k_) ?_
        show own_Go p e below _ T2 (mkF m 37 #[.val (.ref a1), .val (.int p2), .val (.int (p2 + pl))] [(.int (-1 : Int32))])
        refine own_retI X2 hx hlk Bd.returns (hb hby d4_37) e2 (by decide) (by decide) ?_
        exact ⟨by simp [own_ix, own_t, own_fs, hp0, hc24, hc29], N1, rfl⟩
      · show own_Go p e below _ T2 (mkF m 32 #[.val (.ref a1), .val (.int p2), .val (.int (p2 + pl))] [])
        refine own_by (fun t_ k_ => XS.iloadN X2.here hx rfl (hb hby d4_32) rfl k_) ?_
        show own_Go p e below _ T2 (mkF m 33 #[.val (.ref a1), .val (.int p2), .val (.int (p2 + pl))] [(.int (p2 + pl))])
        refine own_by (fun t_ k_ => XS.goto X2.here hx rfl (pc0 := 33) (pc' := 37) rfl (hb hby d4_33) (by decide) (by decide) k_) ?_
        show own_Go p e below _ T2 (mkF m 37 #[.val (.ref a1), .val (.int p2), .val (.int (p2 + pl))] [(.int (p2 + pl))])
        refine own_retI X2 hx hlk Bd.returns (hb hby d4_37) e2 (by decide) (by decide) ?_
        exact ⟨by simp [own_ix, own_t, own_fs, hp0, hc24, hc29], N1, rfl⟩
  · have hp0 : 0 < pl := by unfold own_fs at hc4; exact Decidable.byContradiction fun q => hc4 (if_neg q)
    show own_Go p e below _ T1 (mkF m 7 #[.val (.ref a1), .val (.int p2), .unset] [])
    refine own_by (fun t_ k_ => XS.aloadN X1.here hx rfl (hb hby d4_7) rfl rfl k_) ?_
    show own_Go p e below _ T1 (mkF m 8 #[.val (.ref a1), .val (.int p2), .unset] [(.ref a1)])
    refine own_getF X1 hx hZ hown (hw _ (List.mem_of_getElem? (i := 25) rfl)) Via.refl e1 F_place (hb hby d4_8) ?_
    intro T3 X3 e3
    show own_Go p e below _ T3 (mkF m 11 #[.val (.ref a1), .val (.int p2), .unset] [(.int pl)])
    refine own_by (fun t_ k_ => XS.iconst X3.here hx rfl (hb hby d4_11) k_) ?_
    show own_Go p e below _ T3 (mkF m 12 #[.val (.ref a1), .val (.int p2), .unset] [(.int (1 : Int32)), (.int pl)])
    refine own_by (fun t_ k_ => XS.isub X3.here hx rfl (hb hby d4_12) rfl k_) ?_
    show own_Go p e below _ T3 (mkF m 13 #[.val (.ref a1), .val (.int p2), .unset] [(.int (pl - (1 : Int32)))])
    refine own_by (fun t_ k_ => XS.goto X3.here hx rfl (pc0 := 13) (pc' := 22) rfl (hb hby d4_13) (by decide) (by decide) k_) ?_
    show own_Go p e below _ T3 (mkF m 22 #[.val (.ref a1), .val (.int p2), .unset] [(.int (pl - (1 : Int32)))])
    refine own_by (fun t_ k_ => XS.istoreN X3.here hx rfl (hb hby d4_22) rfl (l' := #[.val (.ref a1), .val (.int p2), .val (.int (pl - (1 : Int32)))]) rfl k_) ?_
    show own_Go p e below _ T3 (mkF m 23 #[.val (.ref a1), .val (.int p2), .val (.int (pl - (1 : Int32)))] [])
    refine own_by (fun t_ k_ => XS.iloadN X3.here hx rfl (hb hby d4_23) rfl k_) ?_
    show own_Go p e below _ T3 (mkF m 24 #[.val (.ref a1), .val (.int p2), .val (.int (pl - (1 : Int32)))] [(.int (pl - (1 : Int32)))])
    refine own_if X3 hx 36 (hb hby d4_24) (by decide) (by decide) (fun (hc24 : (pl - (1 : Int32)) < (0 : Int32)) => ?_) (fun (hc24 : ¬ (pl - (1 : Int32)) < (0 : Int32)) => ?_)
    · show own_Go p e below _ T3 (mkF m 36 #[.val (.ref a1), .val (.int p2), .val (.int (pl - (1 : Int32)))] [])
      refine own_by (fun t_ k_ => XS.iconst X3.here hx rfl (hb hby d4_36) k_) ?_
      show own_Go p e below _ T3 (mkF m 37 #[.val (.ref a1), .val (.int p2), .val (.int (pl - (1 : Int32)))] [(.int (-1 : Int32))])
      refine own_retI X3 hx hlk Bd.returns (hb hby d4_37) e3 (by decide) (by decide) ?_
      exact ⟨by simp [own_ix, own_t, own_fs, hp0, hc24], N1, rfl⟩
    · show own_Go p e below _ T3 (mkF m 27 #[.val (.ref a1), .val (.int p2), .val (.int (pl - (1 : Int32)))] [])
      refine own_by (fun t_ k_ => XS.iloadN X3.here hx rfl (hb hby d4_27) rfl k_) ?_
      show own_Go p e below _ T3 (mkF m 28 #[.val (.ref a1), .val (.int p2), .val (.int (pl - (1 : Int32)))] [(.int (pl - (1 : Int32)))])
      refine own_by (fun t_ k_ => XS.iloadN X3.here hx rfl (hb hby d4_28) rfl k_) ?_
      show own_Go p e below _ T3 (mkF m 29 #[.val (.ref a1), .val (.int p2), .val (.int (pl - (1 : Int32)))] [(.int p2), (.int (pl - (1 : Int32)))])
      refine own_icmp X3 hx 36 (hb hby d4_29) (by decide) (by decide) (fun (hc29 : ¬ (pl - (1 : Int32)) < p2) => ?_) (fun (hc29 : (pl - (1 : Int32)) < p2) => ?_)
      · show own_Go p e below _ T3 (mkF m 36 #[.val (.ref a1), .val (.int p2), .val (.int (pl - (1 : Int32)))] [])
        refine own_by (fun t_ k_ => XS.iconst X3.here hx rfl (hb hby d4_36) k_) ?_
        show own_Go p e below _ T3 (mkF m 37 #[.val (.ref a1), .val (.int p2), .val (.int (pl - (1 : Int32)))] [(.int (-1 : Int32))])
        refine own_retI X3 hx hlk Bd.returns (hb hby d4_37) e3 (by decide) (by decide) ?_
        exact ⟨by simp [own_ix, own_t, own_fs, hp0, hc24, hc29], N1, rfl⟩
      · show own_Go p e below _ T3 (mkF m 32 #[.val (.ref a1), .val (.int p2), .val (.int (pl - (1 : Int32)))] [])
        refine own_by (fun t_ k_ => XS.iloadN X3.here hx rfl (hb hby d4_32) rfl k_) ?_
        show own_Go p e below _ T3 (mkF m 33 #[.val (.ref a1), .val (.int p2), .val (.int (pl - (1 : Int32)))] [(.int (pl - (1 : Int32)))])
        refine own_by (fun t_ k_ => XS.goto X3.here hx rfl (pc0 := 33) (pc' := 37) rfl (hb hby d4_33) (by decide) (by decide) k_) ?_
        show own_Go p e below _ T3 (mkF m 37 #[.val (.ref a1), .val (.int p2), .val (.int (pl - (1 : Int32)))] [(.int (pl - (1 : Int32)))])
        refine own_retI X3 hx hlk Bd.returns (hb hby d4_37) e3 (by decide) (by decide) ?_
        exact ⟨by simp [own_ix, own_t, own_fs, hp0, hc24, hc29], N1, rfl⟩
theorem ef_6 (m : MethodId) (p1 : Int32) (p2 : Int32) : entryFrame m #[(.int p1), (.int p2)] 4 = mkF m 0 #[.val (.int p1), .val (.int p2), .unset, .unset] [] := by first | (simp [entryFrame, mkF, argsToLocals, Value.category]; done) | rfl
set_option maxRecDepth 65536 in
set_option maxHeartbeats 40000000 in
theorem rm6 (l : Launch) (Z : State) (a0 : Array Value) (hw : ∀ d ∈ tables_1, d.before a0 Z = true) (ws : List Jvm.Cond) (p1 : Int32) (p2 : Int32) (h0 : Heap) (n0 : Nat) (Z0 : n0 ≤ h0.size) :
    MetFree l (⟨"com/example/restate/restate/OrdinalIndexPinLaw", "expected", "(II)J"⟩ : MethodName) (head1 (Jvm.Cond.code (⟨"com/example/restate/restate/OrdinalIndexPinLaw", "expected", "(II)J"⟩ : MethodName) method_2_code 4 (some .long) :: ws) ({ frames := 0, cells := 0, slots := 0, locals := 0 } : Room)) (fun a U => a = #[(.int p1), (.int p2)] ∧ Z.Warmed39 U.vm ∧ U.heap = h0) (fun _ _ _ _ _ => True) (fun _ U o U' => ∃ v L, o = .returned v ∧ Q6 p1 p2 h0 n0 v U'.heap L ∧ FrameEnd U o U' L ({ frames := 0, cells := 0, slots := 0, locals := 0 } : Room).cells ({ frames := 0, cells := 0, slots := 0, locals := 0 } : Room).slots) := by
  refine MetFree.of_bodySF (plainFor_of_name pn_0) hisR ?_
  intro p e s m args below meth c s₁ Bd hml0 hP hK
  obtain ⟨rfl, hZ, hh⟩ := hP
  have hx := Bd.exec
  have hby := Bd.bytes
  have hml : c.maxLocals = 4 := hml0
  have hown : s.vm.findClass "com/example/restate/restate/OrdinalIndexPinLaw" = some m.cls := findClass_of_methodNamed Bd.named
  have hnm := (name_of_methodNamed Bd.named Bd.method).1
  have hlk : meth.locks = false := BodyLoose.notSynchronized Bd
  have X0 : Stand p l e ({ frames := 0, cells := 0, slots := 0, locals := 0 } : Room) s m #[(.int p1), (.int p2)] below meth c s₁ [] 0 0 := Stand.of_body Bd
  have e0 : s₁.heap = h0 := by rw [← hh, Bd.state]; rfl
  have N0 := Fr.nil n0
  refine own_start (Q := Q6 p1 p2 h0 n0) (ef_6 m p1 p2) ?_
  show own_Go p e below _ s₁ (mkF m 0 #[.val (.int p1), .val (.int p2), .unset, .unset] [])
  refine own_by (fun t_ k_ => XS.iloadN X0.here hx rfl (hb hby d6_0) rfl k_) ?_
  show own_Go p e below _ s₁ (mkF m 1 #[.val (.int p1), .val (.int p2), .unset, .unset] [(.int p1)])
  refine own_if X0 hx 22 (hb hby d6_1) (by decide) (by decide) (fun (hc1 : ¬ (0 : Int32) < p1) => ?_) (fun (hc1 : (0 : Int32) < p1) => ?_)
  · show own_Go p e below _ s₁ (mkF m 22 #[.val (.int p1), .val (.int p2), .unset, .unset] [])
    refine own_by (fun t_ k_ => XS.iloadN X0.here hx rfl (hb hby d6_22) rfl k_) ?_
    show own_Go p e below _ s₁ (mkF m 23 #[.val (.int p1), .val (.int p2), .unset, .unset] [(.int p1)])
    refine own_by (fun t_ k_ => XT.i2l X0.here hx rfl (hb hby d6_23) rfl k_) ?_
    show own_Go p e below _ s₁ (mkF m 24 #[.val (.int p1), .val (.int p2), .unset, .unset] [(.long p1.toInt64)])
    refine own_by (fun t_ k_ => XT.lneg X0.here hx rfl (hb hby d6_24) rfl k_) ?_
    show own_Go p e below _ s₁ (mkF m 25 #[.val (.int p1), .val (.int p2), .unset, .unset] [(.long (-p1.toInt64))])
    refine own_by (fun t_ k_ => XT.lstoreN X0.here hx rfl (hb hby d6_25) rfl (l' := #[.val (.int p1), .val (.int p2), .val (.long (-p1.toInt64)), .second]) rfl k_) ?_
    show own_Go p e below _ s₁ (mkF m 26 #[.val (.int p1), .val (.int p2), .val (.long (-p1.toInt64)), .second] [])
    refine own_by (fun t_ k_ => XT.lloadN X0.here hx rfl (hb hby d6_26) rfl k_) ?_
    show own_Go p e below _ s₁ (mkF m 27 #[.val (.int p1), .val (.int p2), .val (.long (-p1.toInt64)), .second] [(.long (-p1.toInt64))])
    refine own_by (fun t_ k_ => XS.iloadN X0.here hx rfl (hb hby d6_27) rfl k_) ?_
    show own_Go p e below _ s₁ (mkF m 28 #[.val (.int p1), .val (.int p2), .val (.long (-p1.toInt64)), .second] [(.int p2), (.long (-p1.toInt64))])
    refine own_by (fun t_ k_ => XT.i2l X0.here hx rfl (hb hby d6_28) rfl k_) ?_
    show own_Go p e below _ s₁ (mkF m 29 #[.val (.int p1), .val (.int p2), .val (.long (-p1.toInt64)), .second] [(.long p2.toInt64), (.long (-p1.toInt64))])
    refine own_by (fun t_ k_ => XT.lcmp X0.here hx rfl (hb hby d6_29) rfl k_) ?_
    show own_Go p e below _ s₁ (mkF m 30 #[.val (.int p1), .val (.int p2), .val (.long (-p1.toInt64)), .second] [(.int (XT.cmpL (-p1.toInt64) p2.toInt64))])
    refine own_if X0 hx 38 (hb hby d6_30) (by decide) (by decide) (fun (hc30 : (0 : Int32) < (XT.cmpL (-p1.toInt64) p2.toInt64)) => ?_) (fun (hc30 : ¬ (0 : Int32) < (XT.cmpL (-p1.toInt64) p2.toInt64)) => ?_)
    · show own_Go p e below _ s₁ (mkF m 38 #[.val (.int p1), .val (.int p2), .val (.long (-p1.toInt64)), .second] [])
      refine own_by (fun t_ k_ => X0.ldc2Long hx hown (mvT hZ (hw _ (List.mem_of_getElem? (i := 41) rfl))) (g := (mkF m 38 #[.val (.int p1), .val (.int p2), .val (.long (-p1.toInt64)), .second] [])) rfl (hb hby d6_38) _ k_) ?_
      show own_Go p e below _ s₁ (mkF m 41 #[.val (.int p1), .val (.int p2), .val (.long (-p1.toInt64)), .second] [(.long (-1 : Int64))])
      refine own_retJ X0 hx hlk Bd.returns (hb hby d6_41) e0 (by decide) (by decide) ?_
      exact ⟨by simp only [own_exp, hc1, hc30, if_true, if_false], N0, rfl⟩
    · show own_Go p e below _ s₁ (mkF m 33 #[.val (.int p1), .val (.int p2), .val (.long (-p1.toInt64)), .second] [])
      refine own_by (fun t_ k_ => XS.iloadN X0.here hx rfl (hb hby d6_33) rfl k_) ?_
      show own_Go p e below _ s₁ (mkF m 34 #[.val (.int p1), .val (.int p2), .val (.long (-p1.toInt64)), .second] [(.int p2)])
      refine own_by (fun t_ k_ => XT.i2l X0.here hx rfl (hb hby d6_34) rfl k_) ?_
      show own_Go p e below _ s₁ (mkF m 35 #[.val (.int p1), .val (.int p2), .val (.long (-p1.toInt64)), .second] [(.long p2.toInt64)])
      refine own_by (fun t_ k_ => XT.lloadN X0.here hx rfl (hb hby d6_35) rfl k_) ?_
      show own_Go p e below _ s₁ (mkF m 36 #[.val (.int p1), .val (.int p2), .val (.long (-p1.toInt64)), .second] [(.long (-p1.toInt64)), (.long p2.toInt64)])
      refine own_by (fun t_ k_ => XT.lsub X0.here hx rfl (hb hby d6_36) rfl k_) ?_
      show own_Go p e below _ s₁ (mkF m 37 #[.val (.int p1), .val (.int p2), .val (.long (-p1.toInt64)), .second] [(.long (p2.toInt64 - (-p1.toInt64)))])
      refine own_retJ X0 hx hlk Bd.returns (hb hby d6_37) e0 (by decide) (by decide) ?_
      exact ⟨by simp only [own_exp, hc1, hc30, if_true, if_false], N0, rfl⟩
  · show own_Go p e below _ s₁ (mkF m 4 #[.val (.int p1), .val (.int p2), .unset, .unset] [])
    refine own_by (fun t_ k_ => XS.iloadN X0.here hx rfl (hb hby d6_4) rfl k_) ?_
    show own_Go p e below _ s₁ (mkF m 5 #[.val (.int p1), .val (.int p2), .unset, .unset] [(.int p1)])
    refine own_by (fun t_ k_ => XT.i2l X0.here hx rfl (hb hby d6_5) rfl k_) ?_
    show own_Go p e below _ s₁ (mkF m 6 #[.val (.int p1), .val (.int p2), .unset, .unset] [(.long p1.toInt64)])
    refine own_by (fun t_ k_ => XT.lstoreN X0.here hx rfl (hb hby d6_6) rfl (l' := #[.val (.int p1), .val (.int p2), .val (.long p1.toInt64), .second]) rfl k_) ?_
    show own_Go p e below _ s₁ (mkF m 7 #[.val (.int p1), .val (.int p2), .val (.long p1.toInt64), .second] [])
    refine own_by (fun t_ k_ => XT.lloadN X0.here hx rfl (hb hby d6_7) rfl k_) ?_
    show own_Go p e below _ s₁ (mkF m 8 #[.val (.int p1), .val (.int p2), .val (.long p1.toInt64), .second] [(.long p1.toInt64)])
    refine own_by (fun t_ k_ => XS.iloadN X0.here hx rfl (hb hby d6_8) rfl k_) ?_
    show own_Go p e below _ s₁ (mkF m 9 #[.val (.int p1), .val (.int p2), .val (.long p1.toInt64), .second] [(.int p2), (.long p1.toInt64)])
    refine own_by (fun t_ k_ => XT.i2l X0.here hx rfl (hb hby d6_9) rfl k_) ?_
    show own_Go p e below _ s₁ (mkF m 10 #[.val (.int p1), .val (.int p2), .val (.long p1.toInt64), .second] [(.long p2.toInt64), (.long p1.toInt64)])
    refine own_by (fun t_ k_ => XT.lcmp X0.here hx rfl (hb hby d6_10) rfl k_) ?_
    show own_Go p e below _ s₁ (mkF m 11 #[.val (.int p1), .val (.int p2), .val (.long p1.toInt64), .second] [(.int (XT.cmpL p1.toInt64 p2.toInt64))])
    refine own_if X0 hx 18 (hb hby d6_11) (by decide) (by decide) (fun (hc11 : (0 : Int32) < (XT.cmpL p1.toInt64 p2.toInt64)) => ?_) (fun (hc11 : ¬ (0 : Int32) < (XT.cmpL p1.toInt64 p2.toInt64)) => ?_)
    · show own_Go p e below _ s₁ (mkF m 18 #[.val (.int p1), .val (.int p2), .val (.long p1.toInt64), .second] [])
      refine own_by (fun t_ k_ => X0.ldc2Long hx hown (mvT hZ (hw _ (List.mem_of_getElem? (i := 41) rfl))) (g := (mkF m 18 #[.val (.int p1), .val (.int p2), .val (.long p1.toInt64), .second] [])) rfl (hb hby d6_18) _ k_) ?_
      show own_Go p e below _ s₁ (mkF m 21 #[.val (.int p1), .val (.int p2), .val (.long p1.toInt64), .second] [(.long (-1 : Int64))])
      refine own_retJ X0 hx hlk Bd.returns (hb hby d6_21) e0 (by decide) (by decide) ?_
      exact ⟨by simp only [own_exp, hc1, hc11, if_true, if_false], N0, rfl⟩
    · show own_Go p e below _ s₁ (mkF m 14 #[.val (.int p1), .val (.int p2), .val (.long p1.toInt64), .second] [])
      refine own_by (fun t_ k_ => XT.lloadN X0.here hx rfl (hb hby d6_14) rfl k_) ?_
      show own_Go p e below _ s₁ (mkF m 15 #[.val (.int p1), .val (.int p2), .val (.long p1.toInt64), .second] [(.long p1.toInt64)])
      refine own_by (fun t_ k_ => XT.lconst X0.here hx rfl (hb hby d6_15) k_) ?_
      show own_Go p e below _ s₁ (mkF m 16 #[.val (.int p1), .val (.int p2), .val (.long p1.toInt64), .second] [(.long (1 : Int64)), (.long p1.toInt64)])
      refine own_by (fun t_ k_ => XT.lsub X0.here hx rfl (hb hby d6_16) rfl k_) ?_
      show own_Go p e below _ s₁ (mkF m 17 #[.val (.int p1), .val (.int p2), .val (.long p1.toInt64), .second] [(.long (p1.toInt64 - (1 : Int64)))])
      refine own_retJ X0 hx hlk Bd.returns (hb hby d6_17) e0 (by decide) (by decide) ?_
      exact ⟨by simp only [own_exp, hc1, hc11, if_true, if_false], N0, rfl⟩
theorem ef_0 (m : MethodId) (p1 : Int32) (p2 : Int32) : entryFrame m #[(.int p1), (.int p2)] maxLocals = mkF m 0 #[.val (.int p1), .val (.int p2), .unset, .unset, .unset] [] := by first | (simp [entryFrame, mkF, argsToLocals, Value.category, maxLocals]; done) | rfl
set_option maxRecDepth 65536 in
set_option maxHeartbeats 40000000 in
theorem rm0 (l : Launch) (Z : State) (a0 : Array Value) (hw : ∀ d ∈ tables_1, d.before a0 Z = true) (ws : List Jvm.Cond) (p1 : Int32) (p2 : Int32) (h0 : Heap) (n0 : Nat) (Z0 : n0 ≤ h0.size) :
    MetFree l x (head1 (Jvm.Cond.code x code maxLocals ret :: ws) room_1) (fun a U => a = #[(.int p1), (.int p2)] ∧ Z.Warmed39 U.vm ∧ U.heap = h0) (fun _ _ _ _ _ => True) (fun _ U o U' => ∃ v L, o = .returned v ∧ Q0 n0 v U'.heap L ∧ ReturnedEndW U o U' L room_1.cells room_1.slots) := by
  refine MetFree.of_bodySF (plainFor_of_name pn_0) hisR ?_
  intro p e s m args below meth c s₁ Bd hml0 hP hK
  obtain ⟨rfl, hZ, hh⟩ := hP
  have hx := Bd.exec
  have hby := Bd.bytes
  have hml : c.maxLocals = 5 := hml0
  have hown : s.vm.findClass "com/example/restate/restate/OrdinalIndexPinLaw" = some m.cls := findClass_of_methodNamed Bd.named
  have hnm := (name_of_methodNamed Bd.named Bd.method).1
  have hlk : meth.locks = false := BodyLoose.notSynchronized Bd
  have X0 : Stand p l e room_1 (s.setVm s.vm) m #[(.int p1), (.int p2)] below meth c s₁ [] 0 0 := Stand.of_body Bd
  have e0 : s₁.heap = h0 := by rw [← hh, Bd.state]; rfl
  have N0 := Fr.nil n0
  have hS0 : s.Since s.vm 0 := (State.WarmedH.refl s).since 0
  have hk0 : 0 ≤ h0.size := Nat.zero_le _
  have hwS := own_strs hw
  refine own_startW (Q := Q0 n0) (ef_0 m p1 p2) ?_
  show own_Go p e below _ s₁ (mkF m 0 #[.val (.int p1), .val (.int p2), .unset, .unset, .unset] [])
  refine own_by (fun t_ k_ => XS.iloadN X0.here hx rfl (hb hby at_0) rfl k_) ?_
  show own_Go p e below _ s₁ (mkF m 1 #[.val (.int p1), .val (.int p2), .unset, .unset, .unset] [(.int p1)])
  refine own_if X0 hx 6 (hb hby at_1) (by decide) (by decide) (fun (hc1 : ¬ p1 = (0 : Int32)) => ?_) (fun (hc1 : p1 = (0 : Int32)) => ?_)
  · show own_Go p e below _ s₁ (mkF m 6 #[.val (.int p1), .val (.int p2), .unset, .unset, .unset] [])
    refine own_by (fun t_ k_ => XS.iloadN X0.here hx rfl (hb hby at_6) rfl k_) ?_
    show own_Go p e below _ s₁ (mkF m 7 #[.val (.int p1), .val (.int p2), .unset, .unset, .unset] [(.int p2)])
    refine own_by (fun t_ k_ => X0.ldcInt hx hown (mvT hZ (hw _ (List.mem_of_getElem? (i := 0) rfl))) (g := (mkF m 7 #[.val (.int p1), .val (.int p2), .unset, .unset, .unset] [(.int p2)])) rfl (hb hby at_7) _ k_) ?_
    show own_Go p e below _ s₁ (mkF m 9 #[.val (.int p1), .val (.int p2), .unset, .unset, .unset] [(.int (2147483647 : Int32)), (.int p2)])
    refine own_by (fun t_ k_ => XS.iand X0.here hx rfl (hb hby at_9) rfl k_) ?_
    show own_Go p e below _ s₁ (mkF m 10 #[.val (.int p1), .val (.int p2), .unset, .unset, .unset] [(.int (p2 &&& (2147483647 : Int32)))])
    refine own_by (fun t_ k_ => XS.istoreN X0.here hx rfl (hb hby at_10) rfl (l' := #[.val (.int p1), .val (.int p2), .val (.int (p2 &&& (2147483647 : Int32))), .unset, .unset]) rfl k_) ?_
    show own_Go p e below _ s₁ (mkF m 11 #[.val (.int p1), .val (.int p2), .val (.int (p2 &&& (2147483647 : Int32))), .unset, .unset] [])
    generalize h_cn : (p2 &&& (2147483647 : Int32)) = cn
    show own_Go p e below _ s₁ (mkF m 11 #[.val (.int p1), .val (.int p2), .val (.int cn), .unset, .unset] [])
    refine own_newO X0 hx hZ hown (hw _ (List.mem_of_getElem? (i := 1) rfl)) (hw _ (List.mem_of_getElem? (i := 2) rfl)) (hw _ (List.mem_of_getElem? (i := 3) rfl)) e0 (hb hby at_11) (by decide) (by decide) ?_
    intro T1 h1 b1 X1 e1 g1 E1 A1 D1
    have g_b1 : n0 ≤ b1 := Nat.le_trans Z0 (Nat.le_of_eq g1.symm)
    have sz1 : n0 ≤ h1.size := Nat.le_trans Z0 E1.1
    have F2_0 : Fld Z h1 b1 "com/example/restate/restate/Ordinal" "word" "Ljava/lang/String;" .null := D1 (Or.inr (hw _ (List.mem_of_getElem? (i := 24) rfl))) (ty := (.object "java/lang/String")) (by decide)
    have F3_0 : Fld Z h1 b1 "com/example/restate/restate/Ordinal" "place" "I" (.int (0 : Int32)) := D1 (Or.inr (hw _ (List.mem_of_getElem? (i := 26) rfl))) (ty := .int) (by decide)
    show own_Go p e below _ T1 (mkF m 14 #[.val (.int p1), .val (.int p2), .val (.int cn), .unset, .unset] [(.ref b1)])
    refine own_by (fun t_ k_ => XS.dup X1.here hx rfl (hb hby at_14) rfl rfl k_) ?_
    show own_Go p e below _ T1 (mkF m 15 #[.val (.int p1), .val (.int p2), .val (.int cn), .unset, .unset] [(.ref b1), (.ref b1)])
    refine own_ldcS X1 hx hZ hown (hw _ (List.mem_of_getElem? (i := 4) rfl)) hwS e1 hS0 (Nat.le_trans hk0 E1.1) (hb hby at_15) 64 (by decide) (by decide) (by decide) (by decide) ?_
    intro b4 T4 h4 k4 X4 e4 E4 hS4 hk4 hZ hown
    have sz4 : n0 ≤ h4.size := Nat.le_trans sz1 E4.1
    show own_Go p e below _ T4 (mkF m 17 #[.val (.int p1), .val (.int p2), .val (.int cn), .unset, .unset] [(.ref b4), (.ref b1), (.ref b1)])
    refine own_by (fun t_ k_ => XS.iloadN X4.here hx rfl (hb hby at_17) rfl k_) ?_
    show own_Go p e below _ T4 (mkF m 18 #[.val (.int p1), .val (.int p2), .val (.int cn), .unset, .unset] [(.int p1), (.ref b4), (.ref b1), (.ref b1)])
    have A1_5 : Exa Z h4 b1 "com/example/restate/restate/Ordinal" := (Exa.ext E4 A1)
    have F2_6 : Fld Z h4 b1 "com/example/restate/restate/Ordinal" "word" "Ljava/lang/String;" .null := (Fld.ext E4 F2_0)
    have F3_7 : Fld Z h4 b1 "com/example/restate/restate/Ordinal" "place" "I" (.int (0 : Int32)) := (Fld.ext E4 F3_0)
    refine own_callC (W := 1) X4 hx hZ (y := (⟨"com/example/restate/restate/Ordinal", "<init>", "(Ljava/lang/String;I)V"⟩ : MethodName)) rfl hown (hw _ (List.mem_of_getElem? (i := 12) rfl)) (hw _ (List.mem_of_getElem? (i := 13) rfl)) (hw _ (List.mem_of_getElem? (i := 3) rfl)) (hw _ (List.mem_of_getElem? (i := 14) rfl)) (by decide) (by rw [hml]; rfl) (argsL := [(.ref b4), (.int p1)]) pd_0 rfl (a := b1) (rm1 l Z a0 hw [] b1 b4 p1 h4 n0 sz4 A1_5 F2_6 F3_7 g_b1) (by decide) (by decide) (Nat.le_of_eq rfl) (by decide) (by decide) (rest := [(.ref b1)]) e4 rfl (hb hby at_18) ?_
    intro v8 T8 L8 X8 hQ8
    obtain ⟨rfl, N8q, K8, E8, F8⟩ := hQ8
    have N8 := Fr.app N0 N8q
    have sz8 : n0 ≤ T8.heap.size := Nat.le_trans sz4 K8.1
    show own_Go p e below _ T8 (mkF m 21 #[.val (.int p1), .val (.int p2), .val (.int cn), .unset, .unset] [(.ref b1)])
    refine own_by (fun t_ k_ => XS.astoreN X8.here hx rfl (hb hby at_21) rfl rfl (l' := #[.val (.int p1), .val (.int p2), .val (.int cn), .val (.ref b1), .unset]) rfl k_) ?_
    show own_Go p e below _ T8 (mkF m 22 #[.val (.int p1), .val (.int p2), .val (.int cn), .val (.ref b1), .unset] [])
    refine own_by (fun t_ k_ => XS.aloadN X8.here hx rfl (hb hby at_22) rfl rfl k_) ?_
    show own_Go p e below _ T8 (mkF m 23 #[.val (.int p1), .val (.int p2), .val (.int cn), .val (.ref b1), .unset] [(.ref b1)])
    refine own_by (fun t_ k_ => XS.iloadN X8.here hx rfl (hb hby at_23) rfl k_) ?_
    show own_Go p e below _ T8 (mkF m 24 #[.val (.int p1), .val (.int p2), .val (.int cn), .val (.ref b1), .unset] [(.int cn), (.ref b1)])
    refine own_callV (W := 0) X8 hx hZ (y := (⟨"com/example/restate/restate/Ordinal", "index", "(I)I"⟩ : MethodName)) (z := (⟨"com/example/restate/restate/Ordinal", "index", "(I)I"⟩ : MethodName)) hown (hw _ (List.mem_of_getElem? (i := 27) rfl)) (hw _ (List.mem_of_getElem? (i := 28) rfl)) (notFace_of_selects (args := #[]) (mvT hZ (hw _ (List.mem_of_getElem? (i := 30) rfl)))) (hw _ (List.mem_of_getElem? (i := 30) rfl)) (hw _ (List.mem_of_getElem? (i := 29) rfl)) (hw _ (List.mem_of_getElem? (i := 3) rfl)) (hw _ (List.mem_of_getElem? (i := 31) rfl)) (by decide) (by rw [hml]; rfl) (argsL := [(.int cn)]) pd_2 rfl (a := b1) rfl E8 (rm4 l Z a0 hw [] b1 cn p1 T8.heap n0 sz8 E8 F8) (by decide) (by decide) (Nat.le_of_eq rfl) (by decide) (by decide) (rest := []) rfl (hb hby at_24) ?_
    intro v9 T9 L9 X9 hQ9
    obtain ⟨rfl, N9q, e9⟩ := hQ9
    have N9 := Fr.app N8 N9q
    show own_Go p e below _ T9 (mkF m 27 #[.val (.int p1), .val (.int p2), .val (.int cn), .val (.ref b1), .unset] [(.int (own_ix p1 cn))])
    refine own_by (fun t_ k_ => XS.istore X9.here hx rfl (hb hby at_27) rfl (l' := #[.val (.int p1), .val (.int p2), .val (.int cn), .val (.ref b1), .val (.int (own_ix p1 cn))]) rfl k_) ?_
    show own_Go p e below _ T9 (mkF m 29 #[.val (.int p1), .val (.int p2), .val (.int cn), .val (.ref b1), .val (.int (own_ix p1 cn))] [])
    refine own_by (fun t_ k_ => XS.iload X9.here hx rfl (hb hby at_29) rfl k_) ?_
    show own_Go p e below _ T9 (mkF m 31 #[.val (.int p1), .val (.int p2), .val (.int cn), .val (.ref b1), .val (.int (own_ix p1 cn))] [(.int (own_ix p1 cn))])
    refine own_by (fun t_ k_ => XT.i2l X9.here hx rfl (hb hby at_31) rfl k_) ?_
    show own_Go p e below _ T9 (mkF m 32 #[.val (.int p1), .val (.int p2), .val (.int cn), .val (.ref b1), .val (.int (own_ix p1 cn))] [(.long (own_ix p1 cn).toInt64)])
    refine own_by (fun t_ k_ => XS.iloadN X9.here hx rfl (hb hby at_32) rfl k_) ?_
    show own_Go p e below _ T9 (mkF m 33 #[.val (.int p1), .val (.int p2), .val (.int cn), .val (.ref b1), .val (.int (own_ix p1 cn))] [(.int p1), (.long (own_ix p1 cn).toInt64)])
    refine own_by (fun t_ k_ => XS.iloadN X9.here hx rfl (hb hby at_33) rfl k_) ?_
    show own_Go p e below _ T9 (mkF m 34 #[.val (.int p1), .val (.int p2), .val (.int cn), .val (.ref b1), .val (.int (own_ix p1 cn))] [(.int cn), (.int p1), (.long (own_ix p1 cn).toInt64)])
    refine own_callS (W := 2) X9 hx hZ (y := (⟨"com/example/restate/restate/OrdinalIndexPinLaw", "expected", "(II)J"⟩ : MethodName)) hown (hw _ (List.mem_of_getElem? (i := 37) rfl)) (hw _ (List.mem_of_getElem? (i := 38) rfl)) (hw _ (List.mem_of_getElem? (i := 39) rfl)) (hw _ (List.mem_of_getElem? (i := 40) rfl)) (by decide) (by rw [hml]; rfl) (argsL := [(.int p1), (.int cn)]) pd_4 rfl (rm6 l Z a0 hw [] p1 cn T8.heap n0 sz8) (by decide) (by decide) (Nat.le_of_eq rfl) (by decide) (by decide) (rest := [(.long (own_ix p1 cn).toInt64)]) e9 rfl (hb hby at_34) ?_
    intro v10 T10 L10 X10 hQ10
    obtain ⟨rfl, N10q, e10⟩ := hQ10
    have N10 := Fr.app N9 N10q
    show own_Go p e below _ T10 (mkF m 37 #[.val (.int p1), .val (.int p2), .val (.int cn), .val (.ref b1), .val (.int (own_ix p1 cn))] [(.long (own_exp p1 cn)), (.long (own_ix p1 cn).toInt64)])
    refine own_by (fun t_ k_ => XT.lcmp X10.here hx rfl (hb hby at_37) rfl k_) ?_
    show own_Go p e below _ T10 (mkF m 38 #[.val (.int p1), .val (.int p2), .val (.int cn), .val (.ref b1), .val (.int (own_ix p1 cn))] [(.int (XT.cmpL (own_ix p1 cn).toInt64 (own_exp p1 cn)))])
    refine own_if X10 hx 45 (hb hby at_38) (by decide) (by decide) (fun hc => absurd (show (XT.cmpL (own_ix p1 cn).toInt64 (own_exp p1 cn)) = (0 : Int32) from own_ceq _ _ (own_main p1 cn hc1 (h_cn ▸ own_cnn p2))) (by first | exact hc | exact not_not_intro hc)) (fun _ => ?_)
    show own_Go p e below _ T10 (mkF m 41 #[.val (.int p1), .val (.int p2), .val (.int cn), .val (.ref b1), .val (.int (own_ix p1 cn))] [])
    refine own_by (fun t_ k_ => XS.iconst X10.here hx rfl (hb hby at_41) k_) ?_
    show own_Go p e below _ T10 (mkF m 42 #[.val (.int p1), .val (.int p2), .val (.int cn), .val (.ref b1), .val (.int (own_ix p1 cn))] [(.int (1 : Int32))])
    refine own_by (fun t_ k_ => XS.goto X10.here hx rfl (pc0 := 42) (pc' := 46) rfl (hb hby at_42) (by decide) (by decide) k_) ?_
    show own_Go p e below _ T10 (mkF m 46 #[.val (.int p1), .val (.int p2), .val (.int cn), .val (.ref b1), .val (.int (own_ix p1 cn))] [(.int (1 : Int32))])
    refine own_retZw X10 hx hS4 (Nat.le_trans hk4 K8.1) hlk Bd.returns (by decide) (hb hby at_46) e10 (by decide) (by decide) ?_
    exact ⟨rfl, N10⟩
  · show own_Go p e below _ s₁ (mkF m 4 #[.val (.int p1), .val (.int p2), .unset, .unset, .unset] [])
    refine own_by (fun t_ k_ => XS.iconst X0.here hx rfl (hb hby at_4) k_) ?_
    show own_Go p e below _ s₁ (mkF m 5 #[.val (.int p1), .val (.int p2), .unset, .unset, .unset] [(.int (1 : Int32))])
    refine own_retZw X0 hx hS0 hk0 hlk Bd.returns (by decide) (hb hby at_5) e0 (by decide) (by decide) ?_
    exact ⟨rfl, N0⟩
set_option maxRecDepth 65536 in
set_option maxHeartbeats 40000000 in
theorem comes_1 {Post : Tables → Env → Array Value → State → Outcome → State → Prop} (hpost : ∀ tb e args s v u, (limb_1_1.after args s (.returned v) u = true ∧ limb_1_2.after args s (.returned v) u = true ∧ True) → ReturnedEndW s (.returned v) u (Jvm.fieldLocs frame_1_writes args s ++ Jvm.arrayLocs frame_1_arrays args s ++ Jvm.staticLocs frame_1_statics s) 16 1152 → Post tb e args s (.returned v) u) :
    ArmFor flags0 classFile x code maxLocals ret World_1 tables_1 room_1 Calls_1 rest_1 Pre_1 Post := by
  intro l hfl _ _ p e ha hc hk s m args below hf hA hF happ hP
  obtain ⟨hcalls, hrest, hpre⟩ := hP
  obtain ⟨-, -, -, hnamed, -, -, -, hat⟩ := (Spec.applies_iff hf).mp happ
  obtain ⟨hg, hn⟩ := and_e (Cond.before_iff.mp (show (Jvm.Cond.and given_1 narrow_1).before args s = true from hpre))
  obtain ⟨gc, gr0⟩ := and_e hg
  obtain ⟨ga0, gr1⟩ := and_e gr0
  obtain ⟨w0, w1, rfl⟩ : ∃ w0 w1 : Value, args = #[w0, w1] := by
    have hs : args.size = 2 := by simpa [Cond.value, given_1] using gc
    obtain ⟨L⟩ := args
    match L, hs with
    | [w0, w1], _ => exact ⟨w0, w1, rfl⟩
  have hw := fun d (hd : d ∈ tables_1) => atoms_spec (ws := Jvm.Cond.code x code maxLocals ret :: tables_1) hat d (List.mem_cons_of_mem _ hd)
  have hfit : Fit s := fun {y c} hc i hi => by
    obtain ⟨ha, rfl⟩ := Array.getElem?_eq_some_iff.mp hc
    have q := List.all_eq_true.mp ((Array.all_eq_true_iff_forall_mem.mp hF) _ (Array.getElem_mem ha)) i (List.mem_range.mpr hi)
    simpa [Array.getElem?_eq_getElem hi] using q
  obtain ⟨i0, ei0⟩ := is_v ga0
  obtain rfl : w0 = (.int i0) := Option.some.inj ei0
  obtain ⟨i1, ei1⟩ := is_v gr1
  obtain rfl : w1 = (.int i1) := Option.some.inj ei1
  obtain ⟨n, o, h1, h2, h3, _, L, rfl, ⟨rfl, N⟩, hq⟩ := rm0 l s _ hw tables_1 i0 i1 s.heap s.heap.size (Nat.le_refl _) p e ha hc hk s m _ below hf ((Spec.applies_iff_loose hf).mp happ).1 ⟨rfl, State.Warmed39.refl s, rfl⟩ trivial
  refine ⟨n, _, h1, h2, h3, hpost _ _ _ _ _ _ ⟨Cond.after_iff.mpr rfl, Cond.after_iff.mpr (eq_i res_at (Term.int_eval (1)) rfl), trivial⟩ ⟨hq.1, hq.2.1, hq.2.2.1, (hq.2.2.2.sift fun y hy => Or.inr (N y hy)).mono (by decide) (by decide)⟩⟩
theorem main_1_1 : Claimed_1_1 := comes_1 fun _ _ _ _ _ _ h hF => ⟨h.1, hF⟩
theorem main_1_2 : Claimed_1_2 := comes_1 fun _ _ _ _ _ _ h hF => ⟨h.2.1, hF⟩
end Jvm.Pilot.@@N@@
namespace Jvm.Pilot.@@N@@
open Jvm Jvm.ClassFile Sem Op Lib Jvm.Free Jvm.Stand Jvm.Pilot.@@N@@.Jvm.D
/-! MADE BY PROGRAM (witnessworld.py) out of the Statement's table words and the real class files: 15 classes; the members and pool entries that the words name. The judged class is class 1, her method 2. -/
namespace start1
open Jvm.ClassFile
def u (s : String) : CpInfo := .utf8 (stringToUtf16 s)
/-- a pool by its gaps: so many unusable entries, then the entry; so many at the end -/
def gap : Nat → List CpInfo → List CpInfo
  | 0, r => r
  | n + 1, r => .unusable :: gap n r
def poolList (es : List (Nat × CpInfo)) (last : Nat) : List CpInfo := es.foldr (fun e r => gap e.1 (e.2 :: r)) (gap last [])
def pool (es : List (Nat × CpInfo)) (last : Nat) : Array CpInfo := ⟨poolList es last⟩
def fileOf (pool : Array CpInfo) (this : Nat) (attrs : Array Attribute := #[]) (ms : Array MethodInfo := #[]) (fl : Nat := 33) (sup : Nat := 0) (ifs : Array Nat := #[]) (fds : Array FieldInfo := #[]) : ClassFile where
  minorVersion := 0
  majorVersion := 65
  constantPool := pool
  accessFlags := fl
  thisClass := this
  superClass := sup
  interfaces := ifs
  fields := fds
  methods := ms
  attributes := attrs
def plain (name : String) (sup : Option ClassId) : Class where
  name := name
  kind := .ordinary
  loader := none
  accessFlags := 33
  super := sup
  interfaces := #[]
  cf := none
  fields := #[]
  methods := #[]
  instanceTypes := #[]
  staticTypes := #[]
  resolved := #[]
  callSites := []
  init := .initialized
  statics := none
  mirror := none

def pool0 : Array CpInfo := pool [(5, u "<init>"), (0, u "()V"), (1, .class_ 10), (1, u "java/lang/Object")] 113

def k0c0 : Code := { maxStack := 0, maxLocals := 1, code := object_method_1_code, exceptionTable := #[], attributes := #[] }
def k0m0 : Method := { name := "<init>", desc := "()V", sig := { parameters := [], returnType := none }, accessFlags := 1, code := some k0c0 }
/-- java/lang/Object -/
def k0 : Class := { plain "java/lang/Object" none with
  accessFlags := 33
  interfaces := #[]
  cf := some (fileOf pool0 8 #[] #[{ accessFlags := 1, nameIndex := 5, descriptorIndex := 6, attributes := #[] }] 33 0 #[] #[])
  fields := #[]
  methods := #[k0m0]
  instanceTypes := #[]
  staticTypes := #[]
  resolved := Array.replicate 124 none
  statics := none }

def pool1 : Array CpInfo := pool [(2, .class_ 4), (1, u "java/lang/Object"), (0, u "<init>"), (0, u "()V"), (0, .long 18446744073709551615), (1, .integer 2147483647), (0, .class_ 11), (0, u "com/example/restate/restate/Ordinal"), (0, .string 13), (0, u "w"), (0, .methodref 10 15), (0, .nameAndType 5 16), (0, u "(Ljava/lang/String;I)V"), (0, .methodref 10 18), (0, .nameAndType 19 20), (0, u "index"), (0, u "(I)I"), (0, .methodref 22 23), (0, .class_ 24), (0, .nameAndType 25 26), (0, u "com/example/restate/restate/OrdinalIndexPinLaw"), (0, u "expected"), (0, u "(II)J"), (3, u "law"), (0, u "(II)Z")] 2

def k1m0 : Method := { name := "<init>", desc := "()V", sig := { parameters := [], returnType := none }, accessFlags := 2, code := none }
def k1c1 : Code := { maxStack := 4, maxLocals := 4, code := method_2_code, exceptionTable := #[], attributes := #[] }
def k1m1 : Method := { name := "expected", desc := "(II)J", sig := { parameters := [.int, .int], returnType := some .long }, accessFlags := 10, code := some k1c1 }
def k1c2 : Code := { maxStack := 4, maxLocals := 5, code := code, exceptionTable := #[], attributes := #[] }
def k1m2 : Method := { name := "law", desc := "(II)Z", sig := { parameters := [.int, .int], returnType := some .boolean }, accessFlags := 9, code := some k1c2 }
/-- com/example/restate/restate/OrdinalIndexPinLaw -/
def k1 : Class := { plain "com/example/restate/restate/OrdinalIndexPinLaw" (some 0) with
  accessFlags := 49
  interfaces := #[]
  cf := some (fileOf pool1 22 #[] #[{ accessFlags := 2, nameIndex := 5, descriptorIndex := 6, attributes := #[] }, { accessFlags := 10, nameIndex := 25, descriptorIndex := 26, attributes := #[] }, { accessFlags := 9, nameIndex := 30, descriptorIndex := 31, attributes := #[] }] 49 2 #[] #[])
  fields := #[]
  methods := #[k1m0, k1m1, k1m2]
  instanceTypes := #[]
  staticTypes := #[]
  resolved := Array.replicate 34 none
  statics := none }

def pool2 : Array CpInfo := pool [(1, .methodref 2 3), (0, .class_ 4), (0, .nameAndType 5 6), (0, u "java/lang/Object"), (0, u "<init>"), (0, u "()V"), (0, .class_ 8), (0, u "java/lang/Record")] 13

def k2c0 : Code := { maxStack := 1, maxLocals := 1, code := jdk_30_method_1_code, exceptionTable := #[], attributes := #[] }
def k2m0 : Method := { name := "<init>", desc := "()V", sig := { parameters := [], returnType := none }, accessFlags := 4, code := some k2c0 }
/-- java/lang/Record -/
def k2 : Class := { plain "java/lang/Record" (some 0) with
  accessFlags := 1057
  interfaces := #[]
  cf := some (fileOf pool2 7 #[] #[{ accessFlags := 4, nameIndex := 5, descriptorIndex := 6, attributes := #[] }] 1057 2 #[] #[])
  fields := #[]
  methods := #[k2m0]
  instanceTypes := #[]
  staticTypes := #[]
  resolved := Array.replicate 22 none
  statics := none }

def pool3 : Array CpInfo := pool [(1, .methodref 2 3), (0, .class_ 4), (0, .nameAndType 5 6), (0, u "java/lang/Record"), (0, u "<init>"), (0, u "()V"), (0, .fieldref 8 9), (0, .class_ 10), (0, .nameAndType 11 12), (0, u "com/example/restate/restate/Ordinal"), (0, u "word"), (0, u "Ljava/lang/String;"), (0, .fieldref 8 14), (0, .nameAndType 15 16), (0, u "place"), (0, u "I"), (14, u "FROM_START"), (0, u "Ljava/util/List;"), (8, u "(Ljava/lang/String;I)V"), (2, u "FROM_END"), (9, .methodref 8 55), (0, .nameAndType 56 57), (0, u "fromStart"), (0, u "()Z"), (54, u "WORDS"), (7, u "index"), (0, u "(I)I")] 35

def k3c0 : Code := { maxStack := 2, maxLocals := 3, code := prog_35_method_1_code, exceptionTable := #[], attributes := #[] }
def k3m0 : Method := { name := "<init>", desc := "(Ljava/lang/String;I)V", sig := { parameters := [(.object "java/lang/String"), .int], returnType := none }, accessFlags := 0, code := some k3c0 }
def k3c1 : Code := { maxStack := 2, maxLocals := 3, code := prog_35_method_3_code, exceptionTable := #[], attributes := #[] }
def k3m1 : Method := { name := "index", desc := "(I)I", sig := { parameters := [.int], returnType := some .int }, accessFlags := 0, code := some k3c1 }
def k3c2 : Code := { maxStack := 1, maxLocals := 1, code := prog_35_method_4_code, exceptionTable := #[], attributes := #[] }
def k3m2 : Method := { name := "fromStart", desc := "()Z", sig := { parameters := [], returnType := some .boolean }, accessFlags := 0, code := some k3c2 }
/-- com/example/restate/restate/Ordinal -/
def k3 : Class := { plain "com/example/restate/restate/Ordinal" (some 2) with
  accessFlags := 48
  interfaces := #[]
  cf := some (fileOf pool3 8 #[] #[{ accessFlags := 0, nameIndex := 5, descriptorIndex := 41, attributes := #[] }, { accessFlags := 0, nameIndex := 120, descriptorIndex := 121, attributes := #[] }, { accessFlags := 0, nameIndex := 56, descriptorIndex := 57, attributes := #[] }] 48 2 #[] #[{ accessFlags := 18, nameIndex := 11, descriptorIndex := 12, attributes := #[] }, { accessFlags := 18, nameIndex := 15, descriptorIndex := 16, attributes := #[] }, { accessFlags := 26, nameIndex := 31, descriptorIndex := 32, attributes := #[] }, { accessFlags := 26, nameIndex := 44, descriptorIndex := 32, attributes := #[] }, { accessFlags := 24, nameIndex := 112, descriptorIndex := 12, attributes := #[] }])
  fields := #[{ name := "word", type := (.object "java/lang/String"), accessFlags := 18, slot := 0, constantValue := 0 }, { name := "place", type := .int, accessFlags := 18, slot := 1, constantValue := 0 }, { name := "FROM_START", type := (.object "java/util/List"), accessFlags := 26, slot := 0, constantValue := 0 }, { name := "FROM_END", type := (.object "java/util/List"), accessFlags := 26, slot := 1, constantValue := 0 }, { name := "WORDS", type := (.object "java/lang/String"), accessFlags := 24, slot := 2, constantValue := 0 }]
  methods := #[k3m0, k3m1, k3m2]
  instanceTypes := #[(.object "java/lang/String"), .int]
  staticTypes := #[(.object "java/util/List"), (.object "java/util/List"), (.object "java/lang/String")]
  resolved := Array.replicate 157 none
  statics := none }

def pool4 : Array CpInfo := pool [(1, .class_ 2), (0, u "java/io/Serializable"), (0, .class_ 4), (0, u "java/lang/Object")] 2

/-- java/io/Serializable -/
def k4 : Class := { plain "java/io/Serializable" (some 0) with
  accessFlags := 1537
  interfaces := #[]
  cf := some (fileOf pool4 1 #[] #[] 1537 3 #[] #[])
  fields := #[]
  methods := #[]
  instanceTypes := #[]
  staticTypes := #[]
  resolved := Array.replicate 7 none
  statics := none }

def pool5 : Array CpInfo := pool [(1, .class_ 2), (0, u "java/lang/Comparable"), (0, .class_ 4), (0, u "java/lang/Object")] 7

/-- java/lang/Comparable -/
def k5 : Class := { plain "java/lang/Comparable" (some 0) with
  accessFlags := 1537
  interfaces := #[]
  cf := some (fileOf pool5 1 #[] #[] 1537 3 #[] #[])
  fields := #[]
  methods := #[]
  instanceTypes := #[]
  staticTypes := #[]
  resolved := Array.replicate 12 none
  statics := none }

def pool6 : Array CpInfo := pool [(2, .class_ 4), (1, u "java/lang/CharSequence"), (42, .class_ 48), (0, u "java/lang/CharSequence$1CodePointIterator"), (10, .class_ 60), (0, u "java/lang/CharSequence$1CharIterator"), (5, .class_ 67), (0, u "java/lang/Object")] 63

/-- java/lang/CharSequence -/
def k6 : Class := { plain "java/lang/CharSequence" (some 0) with
  accessFlags := 1537
  interfaces := #[]
  cf := some (fileOf pool6 2 #[.nestMembers #[47, 59]] #[] 1537 66 #[] #[])
  fields := #[]
  methods := #[]
  instanceTypes := #[]
  staticTypes := #[]
  resolved := Array.replicate 131 none
  statics := none }

def pool7 : Array CpInfo := pool [(1, .class_ 2), (0, u "java/lang/constant/Constable"), (0, .class_ 4), (0, u "java/lang/Object")] 6

/-- java/lang/constant/Constable -/
def k7 : Class := { plain "java/lang/constant/Constable" (some 0) with
  accessFlags := 1537
  interfaces := #[]
  cf := some (fileOf pool7 1 #[] #[] 1537 3 #[] #[])
  fields := #[]
  methods := #[]
  instanceTypes := #[]
  staticTypes := #[]
  resolved := Array.replicate 11 none
  statics := none }

def pool8 : Array CpInfo := pool [(1, .class_ 2), (0, u "java/lang/constant/ConstantDesc"), (0, .class_ 4), (0, u "java/lang/Object")] 32

/-- java/lang/constant/ConstantDesc -/
def k8 : Class := { plain "java/lang/constant/ConstantDesc" (some 0) with
  accessFlags := 1537
  interfaces := #[]
  cf := some (fileOf pool8 1 #[] #[] 1537 3 #[] #[])
  fields := #[]
  methods := #[]
  instanceTypes := #[]
  staticTypes := #[]
  resolved := Array.replicate 37 none
  statics := none }

def pool9 : Array CpInfo := pool [(2, .class_ 4), (1, u "java/lang/Object"), (0, u "<init>"), (0, u "()V"), (3, .class_ 12), (1, u "java/lang/String"), (0, u "value"), (0, u "[B"), (2, u "coder"), (0, u "B"), (2, u "hash"), (0, u "I"), (2, u "hashIsZero"), (0, u "Z"), (13, u "COMPACT_STRINGS"), (534, .class_ 576), (0, u "java/lang/CharSequence"), (22, u "CASE_INSENSITIVE_ORDER"), (0, u "Ljava/util/Comparator;"), (500, u "serialPersistentFields"), (0, u "[Ljava/io/ObjectStreamField;"), (0, .class_ 1104), (0, u "java/lang/String$CaseInsensitiveComparator"), (1, .class_ 1107), (0, u "java/io/Serializable"), (0, .class_ 1109), (0, u "java/lang/Comparable"), (0, .class_ 1111), (0, u "java/lang/constant/Constable"), (0, .class_ 1113), (0, u "java/lang/constant/ConstantDesc"), (2, u "serialVersionUID"), (0, u "J"), (3, u "REPL"), (0, u "C"), (2, u "LATIN1"), (1, u "UTF16")] 323

def k9m0 : Method := { name := "<init>", desc := "()V", sig := { parameters := [], returnType := none }, accessFlags := 1, code := none }
/-- java/lang/String -/
def k9 : Class := { plain "java/lang/String" (some 0) with
  accessFlags := 49
  interfaces := #[4, 5, 6, 7, 8]
  cf := some (fileOf pool9 10 #[.nestMembers #[1103]] #[{ accessFlags := 1, nameIndex := 5, descriptorIndex := 6, attributes := #[] }] 49 2 #[1106, 1108, 575, 1110, 1112] #[{ accessFlags := 18, nameIndex := 13, descriptorIndex := 14, attributes := #[] }, { accessFlags := 18, nameIndex := 17, descriptorIndex := 18, attributes := #[] }, { accessFlags := 2, nameIndex := 21, descriptorIndex := 22, attributes := #[] }, { accessFlags := 2, nameIndex := 25, descriptorIndex := 26, attributes := #[] }, { accessFlags := 26, nameIndex := 1116, descriptorIndex := 1117, attributes := #[] }, { accessFlags := 24, nameIndex := 40, descriptorIndex := 26, attributes := #[] }, { accessFlags := 26, nameIndex := 1101, descriptorIndex := 1102, attributes := #[] }, { accessFlags := 26, nameIndex := 1121, descriptorIndex := 1122, attributes := #[] }, { accessFlags := 25, nameIndex := 599, descriptorIndex := 600, attributes := #[] }, { accessFlags := 24, nameIndex := 1125, descriptorIndex := 18, attributes := #[] }, { accessFlags := 24, nameIndex := 1127, descriptorIndex := 18, attributes := #[] }])
  fields := #[{ name := "value", type := (.array .byte), accessFlags := 18, slot := 0, constantValue := 0 }, { name := "coder", type := .byte, accessFlags := 18, slot := 1, constantValue := 0 }, { name := "hash", type := .int, accessFlags := 2, slot := 2, constantValue := 0 }, { name := "hashIsZero", type := .boolean, accessFlags := 2, slot := 3, constantValue := 0 }, { name := "serialVersionUID", type := .long, accessFlags := 26, slot := 0, constantValue := 0 }, { name := "COMPACT_STRINGS", type := .boolean, accessFlags := 24, slot := 1, constantValue := 0 }, { name := "serialPersistentFields", type := (.array (.object "java/io/ObjectStreamField")), accessFlags := 26, slot := 2, constantValue := 0 }, { name := "REPL", type := .char, accessFlags := 26, slot := 3, constantValue := 0 }, { name := "CASE_INSENSITIVE_ORDER", type := (.object "java/util/Comparator"), accessFlags := 25, slot := 4, constantValue := 0 }, { name := "LATIN1", type := .byte, accessFlags := 24, slot := 5, constantValue := 0 }, { name := "UTF16", type := .byte, accessFlags := 24, slot := 6, constantValue := 0 }]
  methods := #[k9m0]
  instanceTypes := #[(.array .byte), .byte, .int, .boolean]
  staticTypes := #[.long, .boolean, (.array (.object "java/io/ObjectStreamField")), .char, (.object "java/util/Comparator"), .byte, .byte]
  resolved := Array.replicate 1451 none
  statics := none }

def pool10 : Array CpInfo := pool [(1, u "java/lang/Cloneable"), (0, .class_ 1), (0, u "java/lang/Object"), (0, .class_ 3)] 3

/-- java/lang/Cloneable -/
def k10 : Class := { plain "java/lang/Cloneable" (some 0) with
  accessFlags := 1537
  interfaces := #[]
  cf := some (fileOf pool10 2 #[] #[] 1537 4 #[] #[])
  fields := #[]
  methods := #[]
  instanceTypes := #[]
  staticTypes := #[]
  resolved := Array.replicate 8 none
  statics := none }

/-- the primitive byte -/
def k11 : Class := { plain "byte" none with kind := .primitive 'B', accessFlags := 0x411 }
/-- [B -/
def k12 : Class := { plain "[B" (some 0) with kind := .array 11 .byte, interfaces := #[10, 4], accessFlags := 1041 }

/-- the primitive int -/
def k13 : Class := { plain "int" none with kind := .primitive 'I', accessFlags := 0x411 }
/-- [I -/
def k14 : Class := { plain "[I" (some 0) with kind := .array 13 .int, interfaces := #[10, 4], accessFlags := 1041 }

def heap : Heap := #[]
def classes : Array Class := #[k0, k1, k2, k3, k4, k5, k6, k7, k8, k9, k10, k11, k12, k13, k14]
def interned : List (Array UInt16 × Addr) := []
def slotsUsed : Nat := 0
def theMethod : MethodId := ⟨1, 2⟩
def args0 : Array Value := #[.int 3, .int 7]
def aboutOver (below : List Frame) : State where
  vm := { classes := classes, interned := interned.toArray }
  heap := heap
  slotsUsed := slotsUsed
  threads := #[{ frames := .invoking theMethod args0 :: below }]
def below0 : List Frame := [.native { method := ⟨0, 0⟩, args := #[] }]
def about1 : State := aboutOver below0
def p0 : Program := .bare "" "" ""
def e0 : Env := launch0.env 0 0 0
theorem w_frames : about1.frames = Frame.invoking theMethod args0 :: below0 := rfl
set_option maxRecDepth 65536 in
theorem w_args : argsFit about1.vm theMethod args0 = true := by decide +kernel
set_option maxRecDepth 65536 in
theorem w_heap : heapFits about1 = true := by decide +kernel
set_option maxRecDepth 65536 in
theorem w_runnable : about1.curStatus? = some .runnable := by decide +kernel
set_option maxRecDepth 65536 in
theorem w_alone : about1.alone = true := by decide +kernel
set_option maxRecDepth 65536 in
theorem w_named : about1.methodNamed? x = some theMethod := by decide +kernel
set_option maxRecDepth 65536 in
theorem w_hears : about1.hears theMethod below0 = true := by decide +kernel
set_option maxRecDepth 65536 in
theorem w_ripe : about1.ripe theMethod args0 below0 = true := by decide +kernel
theorem w_running : about1.status = .running := rfl
set_option maxRecDepth 65536 in
theorem w_room : about1.hasRoom e0.platform room_1 = true :=
  launch0.hasRoom_least _ room_1 (by decide +kernel) (by decide +kernel) (by decide +kernel) (by decide +kernel) (by decide +kernel) (by decide +kernel)
theorem allAtoms_all (ts : List Jvm.Cond) (a : Array Jvm.Value) (st : Jvm.State) : (allAtoms ts).before a st = ts.all (fun c => c.before a st) := by
  induction ts with
  | nil => rfl
  | cons c t ih =>
    show (Jvm.Cond.and c (allAtoms t)).before a st = _
    rw [Jvm.Cond.before_and, ih, List.all_cons]
def words1 : List Jvm.Cond := Jvm.Cond.code x code maxLocals ret :: tables_1
/-- a 'code' word, met by the world's own term for the bytes: nothing is compared byte by byte -/
theorem code_word {y : MethodName} {bytes : ByteArray} {mx : Nat} {rt : Option FieldType} {a : Array Value} {s : State} {m : MethodId} {meth : Method} {c : Code} (h1 : s.methodNamed? y = some m) (h2 : s.vm.method? m = some meth) (h3 : meth.code = some c) (h4 : c.code = bytes)
    (h5 : (c.maxLocals == mx && c.exceptionTable.isEmpty && decide (c.maxStack ≤ mostOperands) && decide (meth.sig.returnType = rt) && !meth.locks && decide (parseMethodDescriptor y.desc = some meth.sig)) = true) : (Jvm.Cond.code y bytes mx rt).before a s = true := by
  simp only [Bool.and_eq_true, beq_iff_eq, Bool.not_eq_true', decide_eq_true_eq] at h5
  obtain ⟨⟨⟨⟨⟨g1, g2⟩, g3⟩, g4⟩, g5⟩, g6⟩ := h5
  simp [Cond.before, Cond.holds, Cond.value, h1, h2, h3, h4, g1, g2, g3, g4, g5, g6]
def isCode : Jvm.Cond → Bool
  | .code _ _ _ _ => true
  | _ => false
theorem all_split {L : List Jvm.Cond} {P : Jvm.Cond → Bool} (h1 : L.all (fun c => isCode c || P c) = true) (h2 : ∀ c ∈ L.filter isCode, P c = true) : L.all P = true := by
  refine List.all_eq_true.mpr fun c hc => ?_
  have h := List.all_eq_true.mp h1 c hc
  rcases Bool.eq_false_or_eq_true (isCode c) with hi | hi
  · exact h2 c (List.mem_filter.mpr ⟨hc, hi⟩)
  · simpa [hi] using h
set_option maxRecDepth 65536 in
theorem w_c0 : (Jvm.Cond.code x code maxLocals ret).before args0 about1 = true := code_word (m := ⟨1, 2⟩) (meth := k1m2) (c := k1c2) (by decide +kernel) rfl rfl rfl (by decide +kernel)
set_option maxRecDepth 65536 in
theorem w_c1 : (Jvm.Cond.code ({ cls := "com/example/restate/restate/Ordinal", name := "<init>", desc := "(Ljava/lang/String;I)V" } : Jvm.MethodName) prog_35_method_1_code (3 : Nat) (Option.none : Option Jvm.ClassFile.FieldType)).before args0 about1 = true := code_word (m := ⟨3, 0⟩) (meth := k3m0) (c := k3c0) (by decide +kernel) rfl rfl rfl (by decide +kernel)
set_option maxRecDepth 65536 in
theorem w_c2 : (Jvm.Cond.code ({ cls := "java/lang/Record", name := "<init>", desc := "()V" } : Jvm.MethodName) jdk_30_method_1_code (1 : Nat) (Option.none : Option Jvm.ClassFile.FieldType)).before args0 about1 = true := code_word (m := ⟨2, 0⟩) (meth := k2m0) (c := k2c0) (by decide +kernel) rfl rfl rfl (by decide +kernel)
set_option maxRecDepth 65536 in
theorem w_c3 : (Jvm.Cond.code ({ cls := "java/lang/Object", name := "<init>", desc := "()V" } : Jvm.MethodName) object_method_1_code (1 : Nat) (Option.none : Option Jvm.ClassFile.FieldType)).before args0 about1 = true := code_word (m := ⟨0, 0⟩) (meth := k0m0) (c := k0c0) (by decide +kernel) rfl rfl rfl (by decide +kernel)
set_option maxRecDepth 65536 in
theorem w_c4 : (Jvm.Cond.code ({ cls := "com/example/restate/restate/Ordinal", name := "index", desc := "(I)I" } : Jvm.MethodName) prog_35_method_3_code (3 : Nat) (Option.some Jvm.ClassFile.FieldType.int)).before args0 about1 = true := code_word (m := ⟨3, 1⟩) (meth := k3m1) (c := k3c1) (by decide +kernel) rfl rfl rfl (by decide +kernel)
set_option maxRecDepth 65536 in
theorem w_c5 : (Jvm.Cond.code ({ cls := "com/example/restate/restate/Ordinal", name := "fromStart", desc := "()Z" } : Jvm.MethodName) prog_35_method_4_code (1 : Nat) (Option.some Jvm.ClassFile.FieldType.boolean)).before args0 about1 = true := code_word (m := ⟨3, 2⟩) (meth := k3m2) (c := k3c2) (by decide +kernel) rfl rfl rfl (by decide +kernel)
set_option maxRecDepth 65536 in
theorem w_c6 : (Jvm.Cond.code ({ cls := "com/example/restate/restate/OrdinalIndexPinLaw", name := "expected", desc := "(II)J" } : Jvm.MethodName) method_2_code (4 : Nat) (Option.some Jvm.ClassFile.FieldType.long)).before args0 about1 = true := code_word (m := ⟨1, 1⟩) (meth := k1m1) (c := k1c1) (by decide +kernel) rfl rfl rfl (by decide +kernel)
def codes1 : List Jvm.Cond := [Jvm.Cond.code x code maxLocals ret, Jvm.Cond.code ({ cls := "com/example/restate/restate/Ordinal", name := "<init>", desc := "(Ljava/lang/String;I)V" } : Jvm.MethodName) prog_35_method_1_code (3 : Nat) (Option.none : Option Jvm.ClassFile.FieldType), Jvm.Cond.code ({ cls := "java/lang/Record", name := "<init>", desc := "()V" } : Jvm.MethodName) jdk_30_method_1_code (1 : Nat) (Option.none : Option Jvm.ClassFile.FieldType), Jvm.Cond.code ({ cls := "java/lang/Object", name := "<init>", desc := "()V" } : Jvm.MethodName) object_method_1_code (1 : Nat) (Option.none : Option Jvm.ClassFile.FieldType), Jvm.Cond.code ({ cls := "com/example/restate/restate/Ordinal", name := "index", desc := "(I)I" } : Jvm.MethodName) prog_35_method_3_code (3 : Nat) (Option.some Jvm.ClassFile.FieldType.int), Jvm.Cond.code ({ cls := "com/example/restate/restate/Ordinal", name := "fromStart", desc := "()Z" } : Jvm.MethodName) prog_35_method_4_code (1 : Nat) (Option.some Jvm.ClassFile.FieldType.boolean), Jvm.Cond.code ({ cls := "com/example/restate/restate/OrdinalIndexPinLaw", name := "expected", desc := "(II)J" } : Jvm.MethodName) method_2_code (4 : Nat) (Option.some Jvm.ClassFile.FieldType.long)]
set_option maxRecDepth 65536 in
theorem codes_eq : words1.filter isCode = codes1 := rfl
theorem w_codes : ∀ c ∈ words1.filter isCode, c.before args0 about1 = true := by
  rw [codes_eq]
  intro c hc
  simp only [codes1, List.mem_cons, List.not_mem_nil, or_false] at hc
  rcases hc with rfl | rfl | rfl | rfl | rfl | rfl | rfl
  · exact w_c0
  · exact w_c1
  · exact w_c2
  · exact w_c3
  · exact w_c4
  · exact w_c5
  · exact w_c6
set_option maxRecDepth 65536 in
theorem w_t1 : (words1.take 24).all (fun c => isCode c || c.before args0 about1) = true := by decide +kernel
set_option maxRecDepth 65536 in
theorem w_t2 : (words1.drop 24).all (fun c => isCode c || c.before args0 about1) = true := by decide +kernel
theorem w_tables : (allAtoms (Jvm.Cond.code x code maxLocals ret :: tables_1)).before args0 about1 = true := by
  rw [allAtoms_all]
  show words1.all (fun c => c.before args0 about1) = true
  refine all_split ?_ w_codes
  rw [← List.take_append_drop 24 words1, List.all_append, w_t1, w_t2]
  rfl
set_option maxRecDepth 65536 in
theorem w_case : (Jvm.Cond.and given_1 narrow_1).before args0 about1 = true := by decide +kernel
theorem w_applies : (headSpec (Jvm.Cond.code x code maxLocals ret :: tables_1) room_1).applies x e0.platform about1 = true :=
  (Spec.applies_iff w_frames).mpr ⟨w_running, w_runnable, w_alone, w_named, w_hears, w_ripe, w_room, w_tables⟩
theorem atStart : AtStart classFile x code maxLocals ret World_1 tables_1 room_1 Calls_1 rest_1 Pre_1 launch0 p0 e0 about1 theMethod args0 below0 :=
  ⟨lists_1, trivial, launch0.admits_env _ _ _, launch0.least_env, fairChoices_fair.cas, fairChoices_fair.clock, w_frames, w_args, w_heap, w_applies, trivial, trivial, w_case⟩
end start1
theorem witness_1 : WitnessClaimed_1 := ⟨start1.p0, start1.e0, start1.about1, start1.theMethod, start1.args0, start1.below0, start1.atStart⟩
end Jvm.Pilot.@@N@@
