import JvmDerived
import JvmDerived.Pilot.@@N@@Statement
import JvmDerived.Pilot.@@N@@Code
set_option linter.unusedVariables false
set_option linter.unusedSimpArgs false
@@BLOCK:NumsL.lean.txt@@
namespace Jvm.Pilot.@@N@@
open Jvm Jvm.ClassFile Sem Op Lib Jvm.Free Jvm.Stand Jvm.LawKit Jvm.RoadKit Bundle Jvm.Pilot.@@N@@.Jvm.D
section OwnKit
variable {p : Program} {l : Launch} {e : Env} {R : Room} {s : State} {m : MethodId} {args : Array Value} {below : List Frame} {meth : Method} {c : Code} {T T' : State} {locs : List Loc} {cells slots : Nat} {Q : Option Value → Heap → List Loc → Prop} {k n : Nat} {Fin : Outcome → State → Prop} {Z : State} {a0 : Array Value} {h : Heap} {pc : Nat} {Ls : Array Slot} {rest : List Value}
/-- from this frame on the body ends as Fin says -/
def own_Go (p : Program) (e : Env) (below : List Frame) (Fin : Outcome → State → Prop) (T : State) (f : JFrame) : Prop :=
  ∃ s₂ o, Steps p.tables e below (T.setTop f) s₂ ∧ s₂.status = .running ∧ Ended s₂ below o ∧ Fin o s₂
/-- it returned, as Q says; the frame as ever -/
def own_Fin (s : State) (Q : Option Value → Heap → List Loc → Prop) (k n : Nat) (o : Outcome) (t : State) : Prop := ∃ v L, o = .returned v ∧ Q v t.heap L ∧ FrameEnd s o t L k n
/-- it returned, as Q says; String constants may have been resolved -/
def own_FinW (s : State) (Q : Option Value → Heap → List Loc → Prop) (k n : Nat) (o : Outcome) (t : State) : Prop := ∃ v L, o = .returned v ∧ Q v t.heap L ∧ ReturnedEndW s o t L k n
theorem own_by {f f' : JFrame} (st : ∀ t, Steps p.tables e below (T'.setTop f') t → Steps p.tables e below (T.setTop f) t) (g : own_Go p e below Fin T' f') : own_Go p e below Fin T f := by
  obtain ⟨s₂, o, h, r⟩ := g
  exact ⟨s₂, o, st _ h, r⟩
theorem own_start {f f' : JFrame} (q : f = f') (g : own_Go p e below (own_Fin s Q k n) T f') : ∃ s₂ o, Steps p.tables e below (T.setTop f) s₂ ∧ s₂.status = .running ∧ Ended s₂ below o ∧ ∃ v L, o = .returned v ∧ Q v s₂.heap L ∧ FrameEnd s o s₂ L k n := by
  subst q; exact g
theorem own_startW {f f' : JFrame} (q : f = f') (g : own_Go p e below (own_FinW s Q k n) T f') : ∃ s₂ o, Steps p.tables e below (T.setTop f) s₂ ∧ s₂.status = .running ∧ Ended s₂ below o ∧ ∃ v L, o = .returned v ∧ Q v s₂.heap L ∧ ReturnedEndW s o s₂ L k n := by
  subst q; exact g
theorem own_ret (X : Stand p l e R s m args below meth c T locs cells slots) (hx : p.tables.exec = Jvm.exec) (hlk : meth.locks = false) {w : Value} {t : FieldType} {i : Instr} (hret : meth.sig.returnType = some t)
    (hi : (i = .ireturn ∧ (t = .int ∨ t = .boolean ∨ t = .byte ∨ t = .char ∨ t = .short) ∧ ∃ z, w = .int z) ∨ (i = .lreturn ∧ t = .long ∧ ∃ z, w = .long z) ∨ (i = .dreturn ∧ t = .double ∧ ∃ z, w = .double z) ∨ (i = .freturn ∧ t = .float ∧ ∃ z, w = .float z) ∨ (i = .areturn ∧ t.isReference = true ∧ w.isRef = true))
    (hn : narrow t w = w) (hd : decode c.code pc = .ok (i, 1)) (eT : T.heap = h) (hk : cells ≤ k) (hs : slots ≤ n) (q : Q (some w) h locs) : own_Go p e below (own_Fin s Q k n) T (mkF m pc Ls (w :: rest)) := by
  obtain ⟨fs, hr, hrun, hended, hW, hsame⟩ := X.leave (v := some w) (fun h => by rw [hret] at h; cases h) hlk
  refine ⟨_, _, retOut X hx hret hn hi hd hr, hrun, hended, _, _, rfl, ?_, ⟨_, rfl⟩, hW, hsame.mono hk hs⟩
  show Q _ T.heap _
  rw [eT]; exact q
theorem own_retI (X : Stand p l e R s m args below meth c T locs cells slots) (hx : p.tables.exec = Jvm.exec) (hlk : meth.locks = false) {z : Int32} (hret : meth.sig.returnType = some .int) (hd : decode c.code pc = .ok (.ireturn, 1)) (eT : T.heap = h) (hk : cells ≤ k) (hs : slots ≤ n) (q : Q (some (.int z)) h locs) : own_Go p e below (own_Fin s Q k n) T (mkF m pc Ls (.int z :: rest)) :=
  own_ret X hx hlk hret (Or.inl ⟨rfl, Or.inl rfl, z, rfl⟩) rfl hd eT hk hs q
theorem own_retZ (X : Stand p l e R s m args below meth c T locs cells slots) (hx : p.tables.exec = Jvm.exec) (hlk : meth.locks = false) {z : Int32} (hret : meth.sig.returnType = some .boolean) (hz : z = 0 ∨ z = 1) (hd : decode c.code pc = .ok (.ireturn, 1)) (eT : T.heap = h) (hk : cells ≤ k) (hs : slots ≤ n) (q : Q (some (.int z)) h locs) : own_Go p e below (own_Fin s Q k n) T (mkF m pc Ls (.int z :: rest)) :=
  own_ret X hx hlk hret (Or.inl ⟨rfl, Or.inr (Or.inl rfl), z, rfl⟩) (by rcases hz with rfl | rfl <;> rfl) hd eT hk hs q
theorem own_retJ (X : Stand p l e R s m args below meth c T locs cells slots) (hx : p.tables.exec = Jvm.exec) (hlk : meth.locks = false) {z : Int64} (hret : meth.sig.returnType = some .long) (hd : decode c.code pc = .ok (.lreturn, 1)) (eT : T.heap = h) (hk : cells ≤ k) (hs : slots ≤ n) (q : Q (some (.long z)) h locs) : own_Go p e below (own_Fin s Q k n) T (mkF m pc Ls (.long z :: rest)) :=
  own_ret X hx hlk hret (Or.inr (Or.inl ⟨rfl, rfl, z, rfl⟩)) rfl hd eT hk hs q
theorem own_retR (X : Stand p l e R s m args below meth c T locs cells slots) (hx : p.tables.exec = Jvm.exec) (hlk : meth.locks = false) {w : Value} {t : FieldType} (hret : meth.sig.returnType = some t) (ht : t.isReference = true) (hw : w.isRef = true) (hn : narrow t w = w) (hd : decode c.code pc = .ok (.areturn, 1)) (eT : T.heap = h) (hk : cells ≤ k) (hs : slots ≤ n) (q : Q (some w) h locs) : own_Go p e below (own_Fin s Q k n) T (mkF m pc Ls (w :: rest)) :=
  own_ret X hx hlk hret (Or.inr (Or.inr (Or.inr (Or.inr ⟨rfl, ht, hw⟩)))) hn hd eT hk hs q
theorem own_retV (X : Stand p l e R s m args below meth c T locs cells slots) (hx : p.tables.exec = Jvm.exec) (hlk : meth.locks = false) (hret : meth.sig.returnType = none) (hd : decode c.code pc = .ok (.return_, 1)) (eT : T.heap = h) (hk : cells ≤ k) (hs : slots ≤ n) (q : Q none h locs) : own_Go p e below (own_Fin s Q k n) T (mkF m pc Ls []) := by
  obtain ⟨fs, hr, hrun, hended, hW, hsame⟩ := X.leave (v := none) (fun _ => rfl) hlk
  refine ⟨_, _, X.returnOut hx hret hd hr, hrun, hended, _, _, rfl, ?_, ⟨_, rfl⟩, hW, hsame.mono hk hs⟩
  show Q _ T.heap _
  rw [eT]; exact q
/-- a conditional branch as a plain comparison -/
def own_cnd : ClassFile.Cond → Int32 → Int32 → Prop
  | .eq, x, y => x = y
  | .ne, x, y => ¬ x = y
  | .lt, x, y => x < y
  | .ge, x, y => ¬ x < y
  | .gt, x, y => y < x
  | .le, x, y => ¬ y < x
def own_neg : ClassFile.Cond → ClassFile.Cond
  | .eq => .ne
  | .ne => .eq
  | .lt => .ge
  | .ge => .lt
  | .gt => .le
  | .le => .gt
theorem own_holds (cd : ClassFile.Cond) (x y : Int32) : (if_icmp.holds cd x y = true ∧ own_cnd cd x y) ∨ (if_icmp.holds cd x y = false ∧ own_cnd (own_neg cd) x y) := by
  cases cd
  case eq => by_cases q : x = y; · exact Or.inl ⟨(teq q).1, q⟩
             · exact Or.inr ⟨(feq q).1, q⟩
  case ne => by_cases q : x = y; · exact Or.inr ⟨(teq q).2, q⟩
             · exact Or.inl ⟨(feq q).2, q⟩
  case lt => by_cases q : x < y; · exact Or.inl ⟨(tlt q).1, q⟩
             · exact Or.inr ⟨(flt q).1, q⟩
  case ge => by_cases q : x < y; · exact Or.inr ⟨(tlt q).2.1, q⟩
             · exact Or.inl ⟨(flt q).2.1, q⟩
  case gt => by_cases q : y < x; · exact Or.inl ⟨(tlt q).2.2.1, q⟩
             · exact Or.inr ⟨(flt q).2.2.1, q⟩
  case le => by_cases q : y < x; · exact Or.inr ⟨(tlt q).2.2.2, q⟩
             · exact Or.inl ⟨(flt q).2.2.2, q⟩
theorem own_icmp (X : Stand p l e R s m args below meth c T locs cells slots) (hx : p.tables.exec = Jvm.exec) {cd : ClassFile.Cond} {x y : Int32} {o : Int} (pc' : Nat) (hd : decode c.code pc = .ok (.if_icmp cd o, 3)) (ho : 0 ≤ (pc : Int) + o) (hp : ((pc : Int) + o).toNat = pc')
    (g1 : own_cnd cd x y → own_Go p e below Fin T (mkF m pc' Ls rest)) (g2 : own_cnd (own_neg cd) x y → own_Go p e below Fin T (mkF m (pc + 3) Ls rest)) : own_Go p e below Fin T (mkF m pc Ls (.int y :: .int x :: rest)) := by
  rcases own_holds cd x y with ⟨q, q'⟩ | ⟨q, q'⟩
  · exact own_by (fun t kk => XS.icmpYes X.here hx rfl (pc0 := pc) (pc' := pc') rfl hd rfl q ho hp kk) (g1 q')
  · exact own_by (fun t kk => XS.icmpNo X.here hx rfl hd rfl q kk) (g2 q')
theorem own_if (X : Stand p l e R s m args below meth c T locs cells slots) (hx : p.tables.exec = Jvm.exec) {cd : ClassFile.Cond} {x : Int32} {o : Int} (pc' : Nat) (hd : decode c.code pc = .ok (.ifCond cd o, 3)) (ho : 0 ≤ (pc : Int) + o) (hp : ((pc : Int) + o).toNat = pc')
    (g1 : own_cnd cd x 0 → own_Go p e below Fin T (mkF m pc' Ls rest)) (g2 : own_cnd (own_neg cd) x 0 → own_Go p e below Fin T (mkF m (pc + 3) Ls rest)) : own_Go p e below Fin T (mkF m pc Ls (.int x :: rest)) := by
  rcases own_holds cd x 0 with ⟨q, q'⟩ | ⟨q, q'⟩
  · exact own_by (fun t kk => XS.ifYes X.here hx rfl (pc0 := pc) (pc' := pc') rfl hd rfl ((if0 _ _).trans q) ho hp kk) (g1 q')
  · exact own_by (fun t kk => XS.ifNo X.here hx rfl hd rfl ((if0 _ _).trans q) kk) (g2 q')
/-- a static call by the callee's contract -/
theorem own_callS (X : Stand p l e R s m args below meth c T locs cells slots) (hx : p.tables.exec = Jvm.exec) (hZ : Z.Warmed39 s.vm) {own : String} {index : Nat} {y : MethodName} {bytes : ByteArray} {maxL W : Nat} {ret : Option FieldType} {rm : Room} {Qc : Option Value → Heap → List Loc → Prop}
    (hown : s.vm.findClass own = some m.cls) (w1 : (Cond.methodLink own index y).before a0 Z = true) (w2 : (Cond.static y).before a0 Z = true) (w3 : (Cond.initialized y.cls).before a0 Z = true) (w4 : (Cond.code y bytes maxL ret).before a0 Z = true)
    (hy : y.cls ≠ "java/lang/invoke/MethodHandle" ∧ y.cls ≠ "java/lang/invoke/VarHandle") (hml : Ls.size = c.maxLocals) {argsL : List Value} {ps : List FieldType} {rt : Option FieldType} (pd : parseMethodDescriptor y.desc = some ⟨ps, rt⟩) (hlen : argsL.length = ps.length)
    (hM : MetFree l y (head1 [Cond.code y bytes maxL ret] rm) (fun a U => a = argsL.toArray ∧ Z.Warmed39 U.vm ∧ U.heap = h) (fun _ _ _ _ _ => True) (fun _ U o U' => ∃ v L, o = .returned v ∧ Qc v U'.heap L ∧ FrameEnd U o U' L rm.cells rm.slots))
    (hf : rm.frames + 1 ≤ R.frames) (hl : W + (maxL + 11) + rm.locals ≤ R.locals) (hW : (rest.map fun v => v.category).sum ≤ W) (hc : cells + rm.cells ≤ R.cells) (hs : slots + rm.slots ≤ R.slots) (eT : T.heap = h) {st : List Value} (hst : st = argsL.reverse ++ rest) (hd : decode c.code pc = .ok (.invokestatic index, 3))
    (g : ∀ (v : Option Value) (T' : State) (L : List Loc), Stand p l e R s m args below meth c T' (locs ++ L) (cells + rm.cells) (slots + rm.slots) → Qc v T'.heap L → own_Go p e below Fin T' (mkF m (pc + 3) Ls (v.toList ++ rest))) :
    own_Go p e below Fin T (mkF m pc Ls st) := by
  subst hst
  obtain ⟨v, _, ⟨T2, L2, k2, n2⟩, -, X2, ⟨Lc2, hQ2, l2, y2, z2⟩, st2⟩ := Jvm.LawKit.callS X hx (y := y) hown (mvT hZ w1) (mvT hZ w2) (mvT hZ w3) (mvT hZ w4) hy (backOf (W := W) hM hZ w4 w3 hf hl) (g := (mkF m pc Ls (argsL.reverse ++ rest))) rfl hml (argsL := argsL) (rest := rest) (lenOf pd hlen) rfl (by show 2 * 0 + _ ≤ _; omega) hd (fun _ _ => ⟨rfl, eT, hc, hs⟩)
  dsimp only [Pt.U, Pt.locs, Pt.cells, Pt.slots] at X2 l2 y2 z2 st2 hQ2
  subst l2 y2 z2
  exact own_by (fun t kk => st2 _ kk) (g v T2 Lc2 X2 hQ2)
/-- a constructor by its contract -/
theorem own_callC (X : Stand p l e R s m args below meth c T locs cells slots) (hx : p.tables.exec = Jvm.exec) (hZ : Z.Warmed39 s.vm) {own : String} {index : Nat} {y : MethodName} {bytes : ByteArray} {maxL W : Nat} {rm : Room} {Qc : Option Value → Heap → List Loc → Prop} (hy1 : y.name = "<init>")
    (hown : s.vm.findClass own = some m.cls) (w1 : (Cond.methodLink own index y).before a0 Z = true) (w2 : (Cond.instanceMethod y).before a0 Z = true) (w3 : (Cond.initialized y.cls).before a0 Z = true) (w4 : (Cond.code y bytes maxL none).before a0 Z = true)
    (hy : y.cls ≠ "java/lang/invoke/MethodHandle" ∧ y.cls ≠ "java/lang/invoke/VarHandle") (hml : Ls.size = c.maxLocals) {a : Addr} {argsL : List Value} {ps : List FieldType} {rt : Option FieldType} (pd : parseMethodDescriptor y.desc = some ⟨ps, rt⟩) (hlen : argsL.length = ps.length)
    (hM : MetFree l y (head1 [Cond.code y bytes maxL none] rm) (fun b U => b = (.ref a :: argsL).toArray ∧ Z.Warmed39 U.vm ∧ U.heap = h) (fun _ _ _ _ _ => True) (fun _ U o U' => ∃ v L, o = .returned v ∧ Qc v U'.heap L ∧ FrameEnd U o U' L rm.cells rm.slots))
    (hf : rm.frames + 1 ≤ R.frames) (hl : W + (maxL + 11) + rm.locals ≤ R.locals) (hW : (rest.map fun v => v.category).sum ≤ W) (hc : cells + rm.cells ≤ R.cells) (hs : slots + rm.slots ≤ R.slots) (eT : T.heap = h) {st : List Value} (hst : st = argsL.reverse ++ .ref a :: rest) (hd : decode c.code pc = .ok (.invokespecial index, 3))
    (g : ∀ (v : Option Value) (T' : State) (L : List Loc), Stand p l e R s m args below meth c T' (locs ++ L) (cells + rm.cells) (slots + rm.slots) → Qc v T'.heap L → own_Go p e below Fin T' (mkF m (pc + 3) Ls (v.toList ++ rest))) :
    own_Go p e below Fin T (mkF m pc Ls st) := by
  subst hst
  obtain ⟨v, _, ⟨T2, L2, k2, n2⟩, -, X2, ⟨Lc2, hQ2, l2, y2, z2⟩, st2⟩ := X.specialBack hx (y := y) hy1 hown (mvT hZ w1) (mvT hZ w2) (mvT hZ w4) hy (backOf (W := W) hM hZ w4 w3 hf hl) (g := (mkF m pc Ls (argsL.reverse ++ .ref a :: rest))) rfl hml (Steps.refl _) (a := a) (argsL := argsL) (rest := rest) (lenOf pd hlen) rfl (by show 2 * 0 + _ ≤ _; omega) hd (fun _ _ => ⟨rfl, eT, hc, hs⟩)
  dsimp only [Pt.U, Pt.locs, Pt.cells, Pt.slots] at X2 l2 y2 z2 st2 hQ2
  subst l2 y2 z2
  exact own_by (fun t kk => st2.trans kk) (g v T2 Lc2 X2 hQ2)
/-- an instance method of the receiver's own class by its contract -/
theorem own_callV (X : Stand p l e R s m args below meth c T locs cells slots) (hx : p.tables.exec = Jvm.exec) (hZ : Z.Warmed39 s.vm) {own C : String} {index : Nat} {y z : MethodName} {bytes : ByteArray} {maxL W : Nat} {ret : Option FieldType} {rm : Room} {Qc : Option Value → Heap → List Loc → Prop}
    (hown : s.vm.findClass own = some m.cls) (w1 : (Cond.methodLink own index y).before a0 Z = true) (wd : (Cond.declares y).before a0 Z = true) (nf : NotFace s y) (ws : (Cond.selects C y z).before a0 Z = true) (w2 : (Cond.instanceMethod z).before a0 Z = true) (w3 : (Cond.initialized z.cls).before a0 Z = true) (w4 : (Cond.code z bytes maxL ret).before a0 Z = true)
    (hy : y.cls ≠ "java/lang/invoke/MethodHandle" ∧ y.cls ≠ "java/lang/invoke/VarHandle") (hml : Ls.size = c.maxLocals) {a : Addr} {argsL : List Value} {ps : List FieldType} {rt : Option FieldType} (pd : parseMethodDescriptor y.desc = some ⟨ps, rt⟩) (hlen : argsL.length = ps.length)
    (eT : T.heap = h) (E : Exa Z h a C)
    (hM : MetFree l z (head1 [Cond.code z bytes maxL ret] rm) (fun b U => b = (.ref a :: argsL).toArray ∧ Z.Warmed39 U.vm ∧ U.heap = h) (fun _ _ _ _ _ => True) (fun _ U o U' => ∃ v L, o = .returned v ∧ Qc v U'.heap L ∧ FrameEnd U o U' L rm.cells rm.slots))
    (hf : rm.frames + 1 ≤ R.frames) (hl : W + (maxL + 11) + rm.locals ≤ R.locals) (hW : (rest.map fun v => v.category).sum ≤ W) (hc : cells + rm.cells ≤ R.cells) (hs : slots + rm.slots ≤ R.slots) {st : List Value} (hst : st = argsL.reverse ++ .ref a :: rest) (hd : decode c.code pc = .ok (.invokevirtual index, 3))
    (g : ∀ (v : Option Value) (T' : State) (L : List Loc), Stand p l e R s m args below meth c T' (locs ++ L) (cells + rm.cells) (slots + rm.slots) → Qc v T'.heap L → own_Go p e below Fin T' (mkF m (pc + 3) Ls (v.toList ++ rest))) :
    own_Go p e below Fin T (mkF m pc Ls st) := by
  subst hst
  obtain ⟨cq, kq, qa, qb, qc⟩ := isOf hZ eT E
  obtain ⟨v, _, ⟨T2, L2, k2, n2⟩, -, X2, ⟨Lc2, hQ2, l2, y2, z2⟩, st2⟩ := X.virtualBack hx (y := y) (z := z) hown (mvT hZ w1) (mvT hZ wd) nf (mvT hZ ws) (mvT hZ w2) hy (backOf (W := W) hM hZ w4 w3 hf hl) qa qc (g := (mkF m pc Ls (argsL.reverse ++ .ref a :: rest))) rfl hml (Steps.refl _) (argsL := argsL) (rest := rest) (lenOf pd hlen) rfl (by show 2 * 0 + _ ≤ _; omega) hd (fun _ _ => ⟨rfl, eT, hc, hs⟩)
  dsimp only [Pt.U, Pt.locs, Pt.cells, Pt.slots] at X2 l2 y2 z2 st2 hQ2
  subst l2 y2 z2
  exact own_by (fun t kk => st2.trans kk) (g v T2 Lc2 X2 hQ2)
theorem own_getF (X : Stand p l e R s m args below meth c T locs cells slots) (hx : p.tables.exec = Jvm.exec) (hZ : Z.Warmed39 s.vm) {own R0 O nm d : String} {index : Nat} (hown : s.vm.findClass own = some m.cls) (w : (Cond.fieldLink own index R0 nm d).before a0 Z = true) (via : Via Z R0 O nm d) (eT : T.heap = h) {a : Addr} {v : Value} (F : Fld Z h a O nm d v) (hd : decode c.code pc = .ok (.getfield index, 3))
    (g : ∀ T', Stand p l e R s m args below meth c T' locs cells slots → T'.heap = h → own_Go p e below Fin T' (mkF m (pc + 3) Ls (v :: rest))) : own_Go p e below Fin T (mkF m pc Ls (.ref a :: rest)) := by
  obtain ⟨T', X', e', st⟩ := getF X hx hZ hown (host := "") (Or.inl w) via eT F (g := mkF m pc Ls (.ref a :: rest)) rfl rfl hd
  exact own_by (fun t kk => st _ kk) (g T' X' e')
theorem own_getFN (X : Stand p l e R s m args below meth c T locs cells slots) (hx : p.tables.exec = Jvm.exec) (hZ : Z.Warmed39 s.vm) {own R0 O nm d host : String} {index : Nat} (hown : s.vm.findClass own = some m.cls) (w : (Cond.fieldLinkNest own index R0 nm d host).before a0 Z = true) (via : Via Z R0 O nm d) (eT : T.heap = h) {a : Addr} {v : Value} (F : Fld Z h a O nm d v) (hd : decode c.code pc = .ok (.getfield index, 3))
    (g : ∀ T', Stand p l e R s m args below meth c T' locs cells slots → T'.heap = h → own_Go p e below Fin T' (mkF m (pc + 3) Ls (v :: rest))) : own_Go p e below Fin T (mkF m pc Ls (.ref a :: rest)) := by
  obtain ⟨T', X', e', st⟩ := getF X hx hZ hown (Or.inr w) via eT F (g := mkF m pc Ls (.ref a :: rest)) rfl rfl hd
  exact own_by (fun t kk => st _ kk) (g T' X' e')
theorem own_getS (X : Stand p l e R s m args below meth c T locs cells slots) (hx : p.tables.exec = Jvm.exec) (hZ : Z.Warmed39 s.vm) {own R0 O nm d : String} {index : Nat} (hown : s.vm.findClass own = some m.cls) (w : (Cond.fieldLink own index R0 nm d).before a0 Z = true) (via : Via Z R0 O nm d) (eT : T.heap = h) {v : Value} (F : Sta Z h O nm d v) (hd : decode c.code pc = .ok (.getstatic index, 3)) {st0 : List Value}
    (g : ∀ T', Stand p l e R s m args below meth c T' locs cells slots → T'.heap = h → own_Go p e below Fin T' (mkF m (pc + 3) Ls (v :: st0))) : own_Go p e below Fin T (mkF m pc Ls st0) := by
  obtain ⟨T', X', e', st⟩ := getS2 X hx hZ hown (host := "") (Or.inl w) via eT F (g := mkF m pc Ls st0) rfl hd
  exact own_by (fun t kk => st _ kk) (g T' X' e')
theorem own_getSN (X : Stand p l e R s m args below meth c T locs cells slots) (hx : p.tables.exec = Jvm.exec) (hZ : Z.Warmed39 s.vm) {own R0 O nm d host : String} {index : Nat} (hown : s.vm.findClass own = some m.cls) (w : (Cond.fieldLinkNest own index R0 nm d host).before a0 Z = true) (via : Via Z R0 O nm d) (eT : T.heap = h) {v : Value} (F : Sta Z h O nm d v) (hd : decode c.code pc = .ok (.getstatic index, 3)) {st0 : List Value}
    (g : ∀ T', Stand p l e R s m args below meth c T' locs cells slots → T'.heap = h → own_Go p e below Fin T' (mkF m (pc + 3) Ls (v :: st0))) : own_Go p e below Fin T (mkF m pc Ls st0) := by
  obtain ⟨T', X', e', st⟩ := getS2 X hx hZ hown (Or.inr w) via eT F (g := mkF m pc Ls st0) rfl hd
  exact own_by (fun t kk => st _ kk) (g T' X' e')
theorem own_putF (X : Stand p l e R s m args below meth c T locs cells slots) (hx : p.tables.exec = Jvm.exec) (hZ : Z.Warmed39 s.vm) {own R0 O nm d C : String} {index kk : Nat} {ty : FieldType} (hown : s.vm.findClass own = some m.cls) (w : (Cond.fieldLink own index R0 nm d).before a0 Z = true) (via : Via Z R0 O nm d) (eT : T.heap = h) {a : Addr} {v old : Value} (F : Fld Z h a O nm d old) (E : Exa Z h a C)
    (L : (Cond.lays C O nm d).before a0 Z = true ∨ ((Cond.laysFinal C O nm d).before a0 Z = true ∧ own = O ∧ meth.name = "<init>")) (wi : (Cond.instantiable C kk).before a0 Z = true) (hty : parseFieldDescriptor d = some ty) (hn : narrow ty v = v) (hf : fits ty v = true) (hd : decode c.code pc = .ok (.putfield index, 3))
    (g : ∀ T' h', Stand p l e R s m args below meth c T' (locs ++ [⟨a, Jvm.RoadKit.slotOf Z O nm d⟩]) cells slots → T'.heap = h' → Wr h h' a (Jvm.RoadKit.slotOf Z O nm d) v → own_Go p e below Fin T' (mkF m (pc + 3) Ls rest)) : own_Go p e below Fin T (mkF m pc Ls (v :: .ref a :: rest)) := by
  obtain ⟨T', h', X', e', W', st⟩ := putF X hx hZ hown (host := "") (Or.inl w) via eT F E L wi hty hn hf (g := mkF m pc Ls (v :: .ref a :: rest)) rfl rfl hd
  exact own_by (fun t kk => st _ kk) (g T' h' X' e' W')
theorem own_newO (X : Stand p l e R s m args below meth c T locs cells slots) (hx : p.tables.exec = Jvm.exec) (hZ : Z.Warmed39 s.vm) {own C : String} {index nn : Nat} (hown : s.vm.findClass own = some m.cls) (w : (Cond.classLink own index C).before a0 Z = true) (wi : (Cond.instantiable C nn).before a0 Z = true) (wz : (Cond.initialized C).before a0 Z = true) (eT : T.heap = h) (hd : decode c.code pc = .ok (.new index, 3)) (hc : cells + 1 ≤ R.cells) (hl : slots + nn ≤ R.slots) {st0 : List Value}
    (g : ∀ T' h' (b : Addr), Stand p l e R s m args below meth c T' locs (cells + 1) (slots + nn) → T'.heap = h' → b = h.size → Ext h h' → Exa Z h' b C → (∀ {O nm d : String} {ty : FieldType}, Laid Z a0 C O nm d → parseFieldDescriptor d = some ty → Fld Z h' b O nm d (defaultValue ty)) → own_Go p e below Fin T' (mkF m (pc + 3) Ls (.ref b :: st0))) : own_Go p e below Fin T (mkF m pc Ls st0) := by
  obtain ⟨T', h', X', e', E', A', D', -, st⟩ := newO X hx hZ hown w wi wz eT (g := mkF m pc Ls st0) rfl hd hc hl
  exact own_by (fun t kk => st _ kk) (g T' h' _ X' e' rfl E' A' D')
theorem own_initO (X : Stand p l e R s m args below meth c T locs cells slots) (hx : p.tables.exec = Jvm.exec) (hZ : Z.Warmed39 s.vm) {own : String} {idx : Nat} (hown : s.vm.findClass own = some m.cls) (w1 : (Cond.methodLink own idx Lib.objectInit).before a0 Z = true) (w2 : (Cond.instanceMethod Lib.objectInit).before a0 Z = true) (w3 : (Cond.code Lib.objectInit ⟨#[0xb1]⟩ 1 none).before a0 Z = true) (eT : T.heap = h) (hml : Ls.size = c.maxLocals) {a : Addr} (hd : decode c.code pc = .ok (.invokespecial idx, 3)) (hf : 1 ≤ R.frames) {W : Nat} (hW : (rest.map fun v => v.category).sum ≤ W) (hl : W + 12 ≤ R.locals)
    (g : ∀ T', Stand p l e R s m args below meth c T' locs cells slots → T'.heap = h → own_Go p e below Fin T' (mkF m (pc + 3) Ls rest)) : own_Go p e below Fin T (mkF m pc Ls (.ref a :: rest)) := by
  obtain ⟨T', X', e', st⟩ := initO X hx hZ hown w1 w2 w3 eT (g := mkF m pc Ls (.ref a :: rest)) rfl hml rfl hd hf (W := W) (by show 2 * 0 + _ ≤ _; omega) hl
  exact own_by (fun t kk => st _ kk) (g T' X' e')
end OwnKit
section OwnMore
variable {p : Program} {l : Launch} {e : Env} {R : Room} {s : State} {m : MethodId} {args : Array Value} {below : List Frame} {meth : Method} {c : Code} {T T' : State} {locs : List Loc} {cells slots : Nat} {Q : Option Value → Heap → List Loc → Prop} {k n : Nat} {Fin : Outcome → State → Prop} {Z : State} {a0 : Array Value} {h : Heap} {pc : Nat} {Ls : Array Slot} {rest : List Value}
theorem own_acmpEq (X : Stand p l e R s m args below meth c T locs cells slots) (hx : p.tables.exec = Jvm.exec) {a b : Addr} {o : Int} (pc' : Nat) (hd : decode c.code pc = .ok (.if_acmp .eq o, 3)) (ho : 0 ≤ (pc : Int) + o) (hp : ((pc : Int) + o).toNat = pc')
    (g1 : a = b → own_Go p e below Fin T (mkF m pc' Ls rest)) (g2 : ¬ a = b → own_Go p e below Fin T (mkF m (pc + 3) Ls rest)) : own_Go p e below Fin T (mkF m pc Ls (.ref b :: .ref a :: rest)) := by
  by_cases q : a = b
  · exact own_by (fun t kk => XT.acmpYes X.here hx rfl (pc0 := pc) (pc' := pc') rfl hd rfl rfl rfl (decide_eq_true (congrArg Value.ref q)) ho hp kk) (g1 q)
  · exact own_by (fun t kk => XT.acmpNo X.here hx rfl hd rfl rfl rfl (decide_eq_false fun z => q (Value.ref.inj z)) kk) (g2 q)
theorem own_acmpNe (X : Stand p l e R s m args below meth c T locs cells slots) (hx : p.tables.exec = Jvm.exec) {a b : Addr} {o : Int} (pc' : Nat) (hd : decode c.code pc = .ok (.if_acmp .ne o, 3)) (ho : 0 ≤ (pc : Int) + o) (hp : ((pc : Int) + o).toNat = pc')
    (g1 : ¬ a = b → own_Go p e below Fin T (mkF m pc' Ls rest)) (g2 : a = b → own_Go p e below Fin T (mkF m (pc + 3) Ls rest)) : own_Go p e below Fin T (mkF m pc Ls (.ref b :: .ref a :: rest)) := by
  by_cases q : a = b
  · exact own_by (fun t kk => XT.acmpNo X.here hx rfl hd rfl rfl rfl (decide_eq_false fun z => z (congrArg Value.ref q)) kk) (g2 q)
  · exact own_by (fun t kk => XT.acmpYes X.here hx rfl (pc0 := pc) (pc' := pc') rfl hd rfl rfl rfl (decide_eq_true fun z => q (Value.ref.inj z)) ho hp kk) (g1 q)
theorem own_eqI {args : Array Value} {t : Term} {x : Int32} (h : (Cond.eq t (.int x)).value args s none s [] = some true) : t.eval args s none [] s = some (.int x) := by
  have q : (Term.int x).eval args s none [] s = some (.int x) := rfl
  cases ht : t.eval args s none [] s with
  | none => simp [Cond.value, ht] at h
  | some w => cases w <;> simp [Cond.value, ht, q] at h <;> (try subst h) <;> simp_all
theorem own_enumF {args : Array Value} {C f d O nm dd : String} {a : Addr} {x : Int32} (ev : (Term.static C f d).eval args s none [] s = some (.ref a)) (h : (Cond.eq (Term.field (Term.static C f d) O nm dd) (.int x)).value args s none s [] = some true) : Fld s s.heap a O nm dd (.int x) :=
  Fld.start ((fld_at ev).symm.trans (own_eqI h))
theorem own_Sta_keep {Z : State} {h h' : Heap} {C n d : String} {v : Value} {ws : List Addr} (F : Sta Z h C n d v) (K : Keep h h' ws) (q : ∀ x ∈ ws, ∀ cell : Cell, h[x]? = some cell → cell.vm.isStatics = false) : Sta Z h' C n d v := by
  obtain ⟨cf, i, k, f, st, cell, h1, h2, h3, h4, h5, h6, h7⟩ := F
  exact ⟨cf, i, k, f, st, cell, h1, h2, h3, h4, K.2.1 st cell h5 (fun z => by rw [q st z cell h5] at h6; cases h6), h6, h7⟩
end OwnMore
section OwnArr
variable {p : Program} {l : Launch} {e : Env} {R : Room} {s : State} {m : MethodId} {args : Array Value} {below : List Frame} {meth : Method} {c : Code} {T T' : State} {locs : List Loc} {cells slots : Nat} {Q : Option Value → Heap → List Loc → Prop} {k n : Nat} {Fin : Outcome → State → Prop} {Z : State} {a0 : Array Value} {h h' : Heap} {pc : Nat} {Ls : Array Slot} {rest : List Value}
/-- the array at a holds just vs -/
def own_Arr (Z : State) (h : Heap) (a : Addr) (ty : FieldType) (vs : List Value) : Prop := ∃ cl : Cell, Arr Z h a cl ty ∧ cl.slots = vs.toArray ∧ vs.length < 2 ^ 31 ∧ ∀ v ∈ vs, fits ty v = true
section Facts
variable {a b : Addr} {ty : FieldType} {vs : List Value} {sl : Nat} {v : Value} {ws : List Addr}
theorem own_Arr.lt (F : own_Arr Z h a ty vs) : a < h.size := by obtain ⟨c, A, -⟩ := F; exact A.lt
theorem own_Arr.ext (F : own_Arr Z h a ty vs) (E : Ext h h') : own_Arr Z h' a ty vs := by obtain ⟨c, A, r⟩ := F; exact ⟨c, A.ext E, r⟩
theorem own_Arr.other (F : own_Arr Z h b ty vs) (W : Wr h h' a sl v) (q : b ≠ a) : own_Arr Z h' b ty vs := by obtain ⟨c, A, r⟩ := F; exact ⟨c, A.other W q, r⟩
theorem own_Arr.keep (F : own_Arr Z h a ty vs) (K : Keep h h' ws) (q : a ∉ ws) : own_Arr Z h' a ty vs := by obtain ⟨c, A, r⟩ := F; exact ⟨c, ⟨K.2.1 a c A.1 q, A.2⟩, r⟩
theorem own_Arr.set (F : own_Arr Z h a ty vs) (W : Wr h h' a sl v) (hv : fits ty v = true) : own_Arr Z h' a ty (vs.set sl v) := by
  obtain ⟨c, A, r1, r2, r3⟩ := F
  refine ⟨_, A.same W, ?_, by simpa using r2, fun u hu => ?_⟩
  rotate_left
  · rcases List.mem_or_eq_of_mem_set hu with q | q
    · exact r3 u q
    · rw [q]; exact hv
  show c.slots.setIfInBounds sl v = _
  rw [r1]; simp
theorem own_idx {j : Int32} {i : Nat} (hj : j.toInt = (i : Int)) : j.toNatClampNeg = i ∧ ¬ j < 0 := by
  constructor
  · show j.toInt.toNat = i
    rw [hj]; simp
  · rw [Int32.lt_iff_toInt_lt, hj]
    have : (0 : Int32).toInt = 0 := by decide
    omega
theorem own_inb {cl : Cell} {j : Int32} {i : Nat} (hj : j.toInt = (i : Int)) (hs : cl.slots = vs.toArray) (hi : i < vs.length) : ¬ (j < 0 ∨ cl.slots.size ≤ j.toNatClampNeg) := by
  obtain ⟨q1, q2⟩ := own_idx hj
  rw [q1, hs]
  intro q
  rcases q with q | q
  · exact q2 q
  · simp at q; omega
theorem own_lt_of {i : Nat} {v : Value} (hv : vs[i]? = some v) : i < vs.length := (List.getElem?_eq_some_iff.mp hv).1
theorem own_Arr.new {cA : ClassId} {j : Int32} {i : Nat} (A : Arr Z h a (newA cA ty j) ty) (hj : j.toInt = (i : Int)) : own_Arr Z h a ty (List.replicate i (defaultValue ty)) := by
  refine ⟨_, A, ?_, ?_, fun u hu => ?_⟩
  rotate_left 2
  · rw [(List.mem_replicate.mp hu).2]
    cases ty <;> rfl
  · show Array.replicate j.toNatClampNeg (defaultValue ty) = _
    rw [(own_idx hj).1]; simp
  · have := Int32.toInt_lt j
    simp; omega
end Facts
theorem own_newP (X : Stand p l e R s m args below meth c T locs cells slots) (hx : p.tables.exec = Jvm.exec) (hZ : Z.Warmed39 s.vm) {aty : ArrayType} (w : (Cond.arrayClass (newarray.typeOf aty)).before a0 Z = true) (eT : T.heap = h) (hd : decode c.code pc = .ok (.newarray aty, 2)) {j : Int32} (i cap : Nat) (hj : j.toInt = (i : Int)) (hcap : i ≤ cap) (hb : cap * 8 ≤ 536870912) (hc : cells + 1 ≤ R.cells) (hl : slots + cap ≤ R.slots)
    (g : ∀ T' h' (b : Addr), Stand p l e R s m args below meth c T' locs (cells + 1) (slots + cap) → T'.heap = h' → b = h.size → Ext h h' → own_Arr Z h' b (newarray.typeOf aty) (List.replicate i (defaultValue (newarray.typeOf aty))) → own_Go p e below Fin T' (mkF m (pc + 2) Ls (.ref b :: rest))) : own_Go p e below Fin T (mkF m pc Ls (.int j :: rest)) := by
  obtain ⟨q1, q2⟩ := own_idx hj
  obtain ⟨T', h', cA, X', e', E', A', st⟩ := newP X hx hZ w eT (g := mkF m pc Ls (.int j :: rest)) rfl hd rfl q2 (cap := cap) (by rw [q1]; exact hcap) hb hc hl
  exact own_by (fun t kk => st _ kk) (g T' h' _ X' e' rfl E' (own_Arr.new A' hj))
theorem own_iastore (X : Stand p l e R s m args below meth c T locs cells slots) (hx : p.tables.exec = Jvm.exec) (hZ : Z.Warmed39 s.vm) (eT : T.heap = h) {a : Addr} {vs : List Value} (A : own_Arr Z h a .int vs) {j x : Int32} (i : Nat) (hj : j.toInt = (i : Int)) (hi : i < vs.length) (hd : decode c.code pc = .ok (.iastore, 1))
    (g : ∀ T' h', Stand p l e R s m args below meth c T' (locs ++ [⟨a, i⟩]) cells slots → T'.heap = h' → Wr h h' a i (.int x) → own_Arr Z h' a .int (vs.set i (.int x)) → own_Go p e below Fin T' (mkF m (pc + 1) Ls rest)) : own_Go p e below Fin T (mkF m pc Ls (.int x :: .int j :: .ref a :: rest)) := by
  have A' := A
  obtain ⟨cl, A1, r1, r2⟩ := A
  obtain ⟨T', h', X', e', W', st⟩ := stI X hx hZ eT A1 (own_inb hj r1 hi) (g := mkF m pc Ls (.int x :: .int j :: .ref a :: rest)) rfl rfl hd
  rw [(own_idx hj).1] at X' W'
  exact own_by (fun t kk => st _ kk) (g T' h' X' e' W' (A'.set W' rfl))
theorem own_iaload (X : Stand p l e R s m args below meth c T locs cells slots) (hx : p.tables.exec = Jvm.exec) (hZ : Z.Warmed39 s.vm) (eT : T.heap = h) {a : Addr} {vs : List Value} (A : own_Arr Z h a .int vs) {j : Int32} {v : Value} (i : Nat) (hj : j.toInt = (i : Int)) (hv : vs[i]? = some v) (hd : decode c.code pc = .ok (.iaload, 1))
    (g : own_Go p e below Fin T (mkF m (pc + 1) Ls (v :: rest))) : own_Go p e below Fin T (mkF m pc Ls (.int j :: .ref a :: rest)) := by
  obtain ⟨cl, A1, r1, r2⟩ := A
  exact own_by (fun t kk => X.iaload hx (j := j) (v := v) (by rw [eT]; exact A1.1) (State.isArrayOf_alike hZ.alike A1.2.1) A1.2.2 (own_inb hj r1 (own_lt_of hv)) (by rw [(own_idx hj).1, r1]; simpa using hv) (g := mkF m pc Ls (.int j :: .ref a :: rest)) rfl rfl hd _ kk) g
theorem own_caload (X : Stand p l e R s m args below meth c T locs cells slots) (hx : p.tables.exec = Jvm.exec) (hZ : Z.Warmed39 s.vm) (eT : T.heap = h) {a : Addr} {vs : List Value} (A : own_Arr Z h a .char vs) {j : Int32} {v : Value} (i : Nat) (hj : j.toInt = (i : Int)) (hv : vs[i]? = some v) (hd : decode c.code pc = .ok (.caload, 1))
    (g : own_Go p e below Fin T (mkF m (pc + 1) Ls (v :: rest))) : own_Go p e below Fin T (mkF m pc Ls (.int j :: .ref a :: rest)) := by
  obtain ⟨cl, A1, r1, r2⟩ := A
  exact own_by (fun t kk => X.caload hx (j := j) (v := v) (by rw [eT]; exact A1.1) (State.isArrayOf_alike hZ.alike A1.2.1) A1.2.2 (own_inb hj r1 (own_lt_of hv)) (by rw [(own_idx hj).1, r1]; simpa using hv) (g := mkF m pc Ls (.int j :: .ref a :: rest)) rfl rfl hd _ kk) g
theorem own_baload (X : Stand p l e R s m args below meth c T locs cells slots) (hx : p.tables.exec = Jvm.exec) (hZ : Z.Warmed39 s.vm) (eT : T.heap = h) {a : Addr} {vs : List Value} (A : own_Arr Z h a .byte vs) {j : Int32} {v : Value} (i : Nat) (hj : j.toInt = (i : Int)) (hv : vs[i]? = some v) (hd : decode c.code pc = .ok (.baload, 1))
    (g : own_Go p e below Fin T (mkF m (pc + 1) Ls (v :: rest))) : own_Go p e below Fin T (mkF m pc Ls (.int j :: .ref a :: rest)) := by
  obtain ⟨cl, A1, r1, r2⟩ := A
  exact own_by (fun t kk => X.baloadBytes hx (j := j) (v := v) (by rw [eT]; exact A1.1) (State.isArrayOf_alike hZ.alike A1.2.1) A1.2.2 (own_inb hj r1 (own_lt_of hv)) (by rw [(own_idx hj).1, r1]; simpa using hv) (g := mkF m pc Ls (.int j :: .ref a :: rest)) rfl rfl hd _ kk) g
theorem own_laload (X : Stand p l e R s m args below meth c T locs cells slots) (hx : p.tables.exec = Jvm.exec) (hZ : Z.Warmed39 s.vm) (eT : T.heap = h) {a : Addr} {vs : List Value} (A : own_Arr Z h a .long vs) {j : Int32} {v : Value} (i : Nat) (hj : j.toInt = (i : Int)) (hv : vs[i]? = some v) (hd : decode c.code pc = .ok (.laload, 1))
    (g : own_Go p e below Fin T (mkF m (pc + 1) Ls (v :: rest))) : own_Go p e below Fin T (mkF m pc Ls (.int j :: .ref a :: rest)) := by
  obtain ⟨cl, A1, r1, r2⟩ := A
  exact own_by (fun t kk => X.laload hx (j := j) (v := v) (by rw [eT]; exact A1.1) (State.isArrayOf_alike hZ.alike A1.2.1) A1.2.2 (own_inb hj r1 (own_lt_of hv)) (by rw [(own_idx hj).1, r1]; simpa using hv) (g := mkF m pc Ls (.int j :: .ref a :: rest)) rfl rfl hd _ kk) g
theorem own_castore (X : Stand p l e R s m args below meth c T locs cells slots) (hx : p.tables.exec = Jvm.exec) (hZ : Z.Warmed39 s.vm) (eT : T.heap = h) {a : Addr} {vs : List Value} (A : own_Arr Z h a .char vs) {j : Int32} {x : Int32} (i : Nat) (hj : j.toInt = (i : Int)) (hi : i < vs.length) (hd : decode c.code pc = .ok (.castore, 1))
    (g : ∀ T' h', Stand p l e R s m args below meth c T' (locs ++ [⟨a, i⟩]) cells slots → T'.heap = h' → Wr h h' a i (.int (nar .char x)) → own_Arr Z h' a .char (vs.set i (.int (nar .char x))) → own_Go p e below Fin T' (mkF m (pc + 1) Ls rest)) : own_Go p e below Fin T (mkF m pc Ls (.int x :: .int j :: .ref a :: rest)) := by
  have A' := A
  obtain ⟨cl, A1, r1, r2⟩ := A
  obtain ⟨T', h', X', e', W', st⟩ := stC X hx hZ eT A1 (own_inb hj r1 hi) (g := mkF m pc Ls (.int x :: .int j :: .ref a :: rest)) rfl rfl hd
  rw [(own_idx hj).1] at X' W'
  exact own_by (fun t kk => st _ kk) (g T' h' X' e' W' (A'.set W' (fits_nar_char _)))
theorem own_bastore (X : Stand p l e R s m args below meth c T locs cells slots) (hx : p.tables.exec = Jvm.exec) (hZ : Z.Warmed39 s.vm) (eT : T.heap = h) {a : Addr} {vs : List Value} (A : own_Arr Z h a .byte vs) {j : Int32} {x : Int32} (i : Nat) (hj : j.toInt = (i : Int)) (hi : i < vs.length) (hd : decode c.code pc = .ok (.bastore, 1))
    (g : ∀ T' h', Stand p l e R s m args below meth c T' (locs ++ [⟨a, i⟩]) cells slots → T'.heap = h' → Wr h h' a i (.int (nar .byte x)) → own_Arr Z h' a .byte (vs.set i (.int (nar .byte x))) → own_Go p e below Fin T' (mkF m (pc + 1) Ls rest)) : own_Go p e below Fin T (mkF m pc Ls (.int x :: .int j :: .ref a :: rest)) := by
  have A' := A
  obtain ⟨cl, A1, r1, r2⟩ := A
  obtain ⟨T', h', X', e', W', st⟩ := stB X hx hZ eT A1 (own_inb hj r1 hi) (g := mkF m pc Ls (.int x :: .int j :: .ref a :: rest)) rfl rfl hd
  rw [(own_idx hj).1] at X' W'
  exact own_by (fun t kk => st _ kk) (g T' h' X' e' W' (A'.set W' (fits_nar_byte _)))
theorem own_lastore (X : Stand p l e R s m args below meth c T locs cells slots) (hx : p.tables.exec = Jvm.exec) (hZ : Z.Warmed39 s.vm) (eT : T.heap = h) {a : Addr} {vs : List Value} (A : own_Arr Z h a .long vs) {j : Int32} {x : Int64} (i : Nat) (hj : j.toInt = (i : Int)) (hi : i < vs.length) (hd : decode c.code pc = .ok (.lastore, 1))
    (g : ∀ T' h', Stand p l e R s m args below meth c T' (locs ++ [⟨a, i⟩]) cells slots → T'.heap = h' → Wr h h' a i (.long x) → own_Arr Z h' a .long (vs.set i (.long x)) → own_Go p e below Fin T' (mkF m (pc + 1) Ls rest)) : own_Go p e below Fin T (mkF m pc Ls (.long x :: .int j :: .ref a :: rest)) := by
  have A' := A
  obtain ⟨cl, A1, r1, r2⟩ := A
  obtain ⟨T', h', X', e', W', st⟩ := stJ X hx hZ eT A1 (own_inb hj r1 hi) (g := mkF m pc Ls (.long x :: .int j :: .ref a :: rest)) rfl rfl hd
  rw [(own_idx hj).1] at X' W'
  exact own_by (fun t kk => st _ kk) (g T' h' X' e' W' (A'.set W' rfl))
theorem own_alen (X : Stand p l e R s m args below meth c T locs cells slots) (hx : p.tables.exec = Jvm.exec) (hZ : Z.Warmed39 s.vm) (eT : T.heap = h) {a : Addr} {ty : FieldType} {vs : List Value} (A : own_Arr Z h a ty vs) (hd : decode c.code pc = .ok (.arraylength, 1))
    (g : own_Go p e below Fin T (mkF m (pc + 1) Ls (.int vs.length.toInt32 :: rest))) : own_Go p e below Fin T (mkF m pc Ls (.ref a :: rest)) := by
  obtain ⟨cl, A1, r1, r2⟩ := A
  have hl : cl.slots.size = vs.length := by rw [r1]; simp
  rw [← hl] at g
  exact own_by (fun t kk => X.arraylength hx (by rw [eT]; exact A1.1) (State.isArrayOf_alike hZ.alike A1.2.1) (g := mkF m pc Ls (.ref a :: rest)) rfl rfl hd _ kk) g
theorem own_Arr.nostat {a : Addr} {ty : FieldType} {vs : List Value} (F : own_Arr Z h a ty vs) : ∀ cell : Cell, h[a]? = some cell → cell.vm.isStatics = false := by obtain ⟨c, A, -⟩ := F; exact A.nostat
theorem own_exa_arr {a b : Addr} {C : String} {kk : Nat} {ty : FieldType} {vs : List Value} (F : Exa Z h a C) (wi : (Cond.instantiable C kk).before a0 Z = true) (G : own_Arr Z h b ty vs) : a ≠ b := by
  obtain ⟨c, A, -⟩ := G
  exact ne_arr F wi A
theorem own_Arr.len {a : Addr} {ty : FieldType} {vs : List Value} (F : own_Arr Z h a ty vs) : vs.length < 2 ^ 31 := by obtain ⟨c, -, -, q, -⟩ := F; exact q
theorem own_getD {vs : List Value} {i : Nat} (hi : i < vs.length) (d : Value) : vs.getD i d = vs[i] := by simp [List.getD, hi]
theorem own_Arr.arv {a : Addr} {ty : FieldType} {vs : List Value} (F : own_Arr Z h a ty vs) (dv : Value) : ∃ kk, Arv Z h a kk ty vs.length.toInt32 vs dv := by
  obtain ⟨cl, A, r1, r2, r3⟩ := F
  have e1 : vs.length.toInt32.toInt = vs.length := len_toInt r2
  have e2 := own_idx e1
  have hs : cl.slots.size = vs.length := by rw [r1]; simp
  refine ⟨cl.cls, cl, A, rfl, by rw [hs, e2.1], e2.2, fun i hi => ?_, fun i hi => ?_⟩
  · rw [hs] at hi
    rw [own_getD hi, r1]; simp [hi]
  · rw [hs] at hi
    rw [own_getD hi]; exact r3 _ (List.getElem_mem hi)
theorem own_Arr.of_arv {a : Addr} {kk : ClassId} {ty : FieldType} {z : Int32} {vs : List Value} {dv : Value} (F : Arv Z h a kk ty z vs dv) (hl : z.toNatClampNeg = vs.length) : own_Arr Z h a ty vs := by
  obtain ⟨cl, A, -, q1, q2, H, G⟩ := F
  have hs : cl.slots.size = vs.length := q1.trans hl
  refine ⟨cl, A, ?_, ?_, fun v hv => ?_⟩
  · apply Array.ext'
    apply List.ext_getElem?
    intro i
    by_cases hi : i < vs.length
    · have := H i (by rw [hs]; exact hi)
      rw [own_getD hi] at this
      have q2 : (vs.toArray.toList)[i]? = some vs[i] := by simp [hi]
      rw [q2, Array.getElem?_toList]
      exact this
    · have h1 : cl.slots.toList[i]? = none := by rw [List.getElem?_eq_none_iff]; simp; omega
      have h2 : (vs.toArray.toList)[i]? = none := by rw [List.getElem?_eq_none_iff]; simp; omega
      rw [h1, h2]
  · rw [← hl]
    have := z.toInt_lt
    show z.toInt.toNat < 2 ^ 31
    omega
  · obtain ⟨i, hi, rfl⟩ := List.getElem_of_mem hv
    have := G i (by rw [hs]; exact hi)
    rwa [own_getD hi] at this
end OwnArr
section OwnList
/-- the list us written from the place i on -/
def own_put (vs : List Value) : Nat → List Int32 → List Value
  | _, [] => vs
  | i, u :: us => own_put (vs.set i (.int u)) (i + 1) us
theorem own_put_len : ∀ (us : List Int32) (vs : List Value) (i : Nat), (own_put vs i us).length = vs.length
  | [], vs, i => rfl
  | u :: us, vs, i => by rw [own_put, own_put_len us]; simp
/-- from the place i on the array holds xs -/
def own_At (vs : List Value) : Nat → List Int32 → Prop
  | _, [] => True
  | i, x :: xs => vs[i]? = some (.int x) ∧ own_At vs (i + 1) xs
theorem own_At_app : ∀ (xs ys : List Int32) (vs : List Value) (i : Nat), own_At vs i xs → own_At vs (i + xs.length) ys → own_At vs i (xs ++ ys)
  | [], ys, vs, i, _, h => by simpa using h
  | x :: xs, ys, vs, i, h, h' => by
    have e : i + 1 + xs.length = i + (x :: xs).length := by
      simp; omega
    exact ⟨h.1, own_At_app xs ys vs (i + 1) h.2 (by rw [e]; exact h')⟩
theorem own_put_lo : ∀ (us : List Int32) (vs : List Value) (i j : Nat), j < i → (own_put vs i us)[j]? = vs[j]?
  | [], vs, i, j, _ => rfl
  | u :: us, vs, i, j, h => by rw [own_put, own_put_lo us _ _ _ (by omega), List.getElem?_set_ne (by omega)]
theorem own_put_At : ∀ (us : List Int32) (vs : List Value) (i : Nat), i + us.length ≤ vs.length → own_At (own_put vs i us) i us
  | [], vs, i, _ => trivial
  | u :: us, vs, i, h => by
    have h' : i + 1 + us.length ≤ vs.length := by simp at h; omega
    refine ⟨?_, own_put_At us _ (i + 1) (by simpa using h')⟩
    rw [own_put, own_put_lo us _ _ _ (by omega)]
    have hi : i < vs.length := by simp at h; omega
    simp [hi]
theorem own_inc {x : Int32} {i : Nat} (h : x.toInt = (i : Int)) (hi : i + 1 < 2 ^ 31) : (x + 1).toInt = ((i + 1 : Nat) : Int) := by
  have k : (1 : Int32).toInt = 1 := by decide
  have e : (x + 1).toInt = x.toInt + (1 : Int32).toInt := Jvm.Kit.i32_add (by omega) (by omega)
  rw [e, h, k]; omega
theorem own_nlt {x y : Int32} {i j : Nat} (hx : x.toInt = (i : Int)) (hy : y.toInt = (j : Int)) (q : j ≤ i) : ¬ x < y := by rw [Int32.lt_iff_toInt_lt]; omega
theorem own_ilt {x y : Int32} {i j : Nat} (hx : x.toInt = (i : Int)) (hy : y.toInt = (j : Int)) (q : i < j) : x < y := by rw [Int32.lt_iff_toInt_lt]; omega
end OwnList
theorem pn_0 : plainName "com/example/valuation/valuation/provenance/MonomialUnionPinLaw" = true := by first | (simp [plainName, overriddenIn]; done) | decide +kernel
theorem d1_0 : decode method_2_code 0 = .ok (.iload_n 1, 1) := by decide +kernel
theorem d1_1 : decode method_2_code 1 = .ok (.istore 7, 2) := by decide +kernel
theorem d1_3 : decode method_2_code 3 = .ok (.iload_n 2, 1) := by decide +kernel
theorem d1_4 : decode method_2_code 4 = .ok (.iconst 1, 1) := by decide +kernel
theorem d1_5 : decode method_2_code 5 = .ok (.iand, 1) := by decide +kernel
theorem d1_6 : decode method_2_code 6 = .ok (.ifCond .eq 11, 3) := by decide +kernel
theorem d1_17 : decode method_2_code 17 = .ok (.iload_n 2, 1) := by decide +kernel
theorem d1_18 : decode method_2_code 18 = .ok (.iconst 2, 1) := by decide +kernel
theorem d1_19 : decode method_2_code 19 = .ok (.iand, 1) := by decide +kernel
theorem d1_20 : decode method_2_code 20 = .ok (.ifCond .eq 12, 3) := by decide +kernel
theorem d1_32 : decode method_2_code 32 = .ok (.iload_n 2, 1) := by decide +kernel
theorem d1_33 : decode method_2_code 33 = .ok (.iconst 4, 1) := by decide +kernel
theorem d1_34 : decode method_2_code 34 = .ok (.iand, 1) := by decide +kernel
theorem d1_35 : decode method_2_code 35 = .ok (.ifCond .eq 12, 3) := by decide +kernel
theorem d1_47 : decode method_2_code 47 = .ok (.iload_n 2, 1) := by decide +kernel
theorem d1_48 : decode method_2_code 48 = .ok (.bipush 8, 2) := by decide +kernel
theorem d1_50 : decode method_2_code 50 = .ok (.iand, 1) := by decide +kernel
theorem d1_51 : decode method_2_code 51 = .ok (.ifCond .eq 12, 3) := by decide +kernel
theorem d1_63 : decode method_2_code 63 = .ok (.iload 7, 2) := by decide +kernel
theorem d1_65 : decode method_2_code 65 = .ok (.ireturn, 1) := by decide +kernel
theorem d1_54 : decode method_2_code 54 = .ok (.aload_n 0, 1) := by decide +kernel
theorem d1_55 : decode method_2_code 55 = .ok (.iload 7, 2) := by decide +kernel
theorem d1_57 : decode method_2_code 57 = .ok (.iload 6, 2) := by decide +kernel
theorem d1_59 : decode method_2_code 59 = .ok (.iastore, 1) := by decide +kernel
theorem d1_60 : decode method_2_code 60 = .ok (.iinc 7 1, 3) := by decide +kernel
theorem d1_38 : decode method_2_code 38 = .ok (.aload_n 0, 1) := by decide +kernel
theorem d1_39 : decode method_2_code 39 = .ok (.iload 7, 2) := by decide +kernel
theorem d1_41 : decode method_2_code 41 = .ok (.iload 5, 2) := by decide +kernel
theorem d1_43 : decode method_2_code 43 = .ok (.iastore, 1) := by decide +kernel
theorem d1_44 : decode method_2_code 44 = .ok (.iinc 7 1, 3) := by decide +kernel
theorem d1_23 : decode method_2_code 23 = .ok (.aload_n 0, 1) := by decide +kernel
theorem d1_24 : decode method_2_code 24 = .ok (.iload 7, 2) := by decide +kernel
theorem d1_26 : decode method_2_code 26 = .ok (.iload 4, 2) := by decide +kernel
theorem d1_28 : decode method_2_code 28 = .ok (.iastore, 1) := by decide +kernel
theorem d1_29 : decode method_2_code 29 = .ok (.iinc 7 1, 3) := by decide +kernel
theorem d1_9 : decode method_2_code 9 = .ok (.aload_n 0, 1) := by decide +kernel
theorem d1_10 : decode method_2_code 10 = .ok (.iload 7, 2) := by decide +kernel
theorem d1_12 : decode method_2_code 12 = .ok (.iload_n 3, 1) := by decide +kernel
theorem d1_13 : decode method_2_code 13 = .ok (.iastore, 1) := by decide +kernel
theorem d1_14 : decode method_2_code 14 = .ok (.iinc 7 1, 3) := by decide +kernel
theorem pn_2 : plainName "com/example/valuation/valuation/provenance/Monomial" = true := by first | (simp [plainName, overriddenIn]; done) | decide +kernel
theorem d2_126 : decode prog_29_method_6_code 126 = .ok (.iload 9, 2) := by decide +kernel
theorem d2_128 : decode prog_29_method_6_code 128 = .ok (.iload 5, 2) := by decide +kernel
theorem d2_130 : decode prog_29_method_6_code 130 = .ok (.if_icmp .ge 21, 3) := by decide +kernel
theorem d2_151 : decode prog_29_method_6_code 151 = .ok (.iload 7, 2) := by decide +kernel
theorem d2_153 : decode prog_29_method_6_code 153 = .ok (.ireturn, 1) := by decide +kernel
theorem d2_133 : decode prog_29_method_6_code 133 = .ok (.aload 6, 2) := by decide +kernel
theorem d2_135 : decode prog_29_method_6_code 135 = .ok (.iload 7, 2) := by decide +kernel
theorem d2_137 : decode prog_29_method_6_code 137 = .ok (.iinc 7 1, 3) := by decide +kernel
theorem d2_140 : decode prog_29_method_6_code 140 = .ok (.aload_n 3, 1) := by decide +kernel
theorem d2_141 : decode prog_29_method_6_code 141 = .ok (.iload 9, 2) := by decide +kernel
theorem d2_143 : decode prog_29_method_6_code 143 = .ok (.iinc 9 1, 3) := by decide +kernel
theorem d2_146 : decode prog_29_method_6_code 146 = .ok (.iaload, 1) := by decide +kernel
theorem d2_147 : decode prog_29_method_6_code 147 = .ok (.iastore, 1) := by decide +kernel
theorem d2_148 : decode prog_29_method_6_code 148 = .ok (.goto (-22), 3) := by decide +kernel
theorem d2_102 : decode prog_29_method_6_code 102 = .ok (.iload 8, 2) := by decide +kernel
theorem d2_104 : decode prog_29_method_6_code 104 = .ok (.iload_n 2, 1) := by decide +kernel
theorem d2_105 : decode prog_29_method_6_code 105 = .ok (.if_icmp .ge 21, 3) := by decide +kernel
theorem d2_108 : decode prog_29_method_6_code 108 = .ok (.aload 6, 2) := by decide +kernel
theorem d2_110 : decode prog_29_method_6_code 110 = .ok (.iload 7, 2) := by decide +kernel
theorem d2_112 : decode prog_29_method_6_code 112 = .ok (.iinc 7 1, 3) := by decide +kernel
theorem d2_115 : decode prog_29_method_6_code 115 = .ok (.aload_n 0, 1) := by decide +kernel
theorem d2_116 : decode prog_29_method_6_code 116 = .ok (.iload 8, 2) := by decide +kernel
theorem d2_118 : decode prog_29_method_6_code 118 = .ok (.iinc 8 1, 3) := by decide +kernel
theorem d2_121 : decode prog_29_method_6_code 121 = .ok (.iaload, 1) := by decide +kernel
theorem d2_122 : decode prog_29_method_6_code 122 = .ok (.iastore, 1) := by decide +kernel
theorem d2_123 : decode prog_29_method_6_code 123 = .ok (.goto (-21), 3) := by decide +kernel
theorem d2_10 : decode prog_29_method_6_code 10 = .ok (.iload 8, 2) := by decide +kernel
theorem d2_12 : decode prog_29_method_6_code 12 = .ok (.iload_n 2, 1) := by decide +kernel
theorem d2_13 : decode prog_29_method_6_code 13 = .ok (.if_icmp .ge 89, 3) := by decide +kernel
theorem d2_16 : decode prog_29_method_6_code 16 = .ok (.iload 9, 2) := by decide +kernel
theorem d2_18 : decode prog_29_method_6_code 18 = .ok (.iload 5, 2) := by decide +kernel
theorem d2_20 : decode prog_29_method_6_code 20 = .ok (.if_icmp .ge 82, 3) := by decide +kernel
theorem d2_23 : decode prog_29_method_6_code 23 = .ok (.aload_n 0, 1) := by decide +kernel
theorem d2_24 : decode prog_29_method_6_code 24 = .ok (.iload 8, 2) := by decide +kernel
theorem d2_26 : decode prog_29_method_6_code 26 = .ok (.iaload, 1) := by decide +kernel
theorem d2_27 : decode prog_29_method_6_code 27 = .ok (.aload_n 3, 1) := by decide +kernel
theorem d2_28 : decode prog_29_method_6_code 28 = .ok (.iload 9, 2) := by decide +kernel
theorem d2_30 : decode prog_29_method_6_code 30 = .ok (.iaload, 1) := by decide +kernel
theorem d2_31 : decode prog_29_method_6_code 31 = .ok (.if_icmp .ge 21, 3) := by decide +kernel
theorem d2_52 : decode prog_29_method_6_code 52 = .ok (.aload_n 0, 1) := by decide +kernel
theorem d2_53 : decode prog_29_method_6_code 53 = .ok (.iload 8, 2) := by decide +kernel
theorem d2_55 : decode prog_29_method_6_code 55 = .ok (.iaload, 1) := by decide +kernel
theorem d2_56 : decode prog_29_method_6_code 56 = .ok (.aload_n 3, 1) := by decide +kernel
theorem d2_57 : decode prog_29_method_6_code 57 = .ok (.iload 9, 2) := by decide +kernel
theorem d2_59 : decode prog_29_method_6_code 59 = .ok (.iaload, 1) := by decide +kernel
theorem d2_60 : decode prog_29_method_6_code 60 = .ok (.if_icmp .le 21, 3) := by decide +kernel
theorem d2_81 : decode prog_29_method_6_code 81 = .ok (.aload 6, 2) := by decide +kernel
theorem d2_83 : decode prog_29_method_6_code 83 = .ok (.iload 7, 2) := by decide +kernel
theorem d2_85 : decode prog_29_method_6_code 85 = .ok (.iinc 7 1, 3) := by decide +kernel
theorem d2_88 : decode prog_29_method_6_code 88 = .ok (.aload_n 0, 1) := by decide +kernel
theorem d2_89 : decode prog_29_method_6_code 89 = .ok (.iload 8, 2) := by decide +kernel
theorem d2_91 : decode prog_29_method_6_code 91 = .ok (.iinc 8 1, 3) := by decide +kernel
theorem d2_94 : decode prog_29_method_6_code 94 = .ok (.iaload, 1) := by decide +kernel
theorem d2_95 : decode prog_29_method_6_code 95 = .ok (.iastore, 1) := by decide +kernel
theorem d2_96 : decode prog_29_method_6_code 96 = .ok (.iinc 9 1, 3) := by decide +kernel
theorem d2_99 : decode prog_29_method_6_code 99 = .ok (.goto (-89), 3) := by decide +kernel
theorem d2_63 : decode prog_29_method_6_code 63 = .ok (.aload 6, 2) := by decide +kernel
theorem d2_65 : decode prog_29_method_6_code 65 = .ok (.iload 7, 2) := by decide +kernel
theorem d2_67 : decode prog_29_method_6_code 67 = .ok (.iinc 7 1, 3) := by decide +kernel
theorem d2_70 : decode prog_29_method_6_code 70 = .ok (.aload_n 3, 1) := by decide +kernel
theorem d2_71 : decode prog_29_method_6_code 71 = .ok (.iload 9, 2) := by decide +kernel
theorem d2_73 : decode prog_29_method_6_code 73 = .ok (.iinc 9 1, 3) := by decide +kernel
theorem d2_76 : decode prog_29_method_6_code 76 = .ok (.iaload, 1) := by decide +kernel
theorem d2_77 : decode prog_29_method_6_code 77 = .ok (.iastore, 1) := by decide +kernel
theorem d2_78 : decode prog_29_method_6_code 78 = .ok (.goto (-68), 3) := by decide +kernel
theorem d2_34 : decode prog_29_method_6_code 34 = .ok (.aload 6, 2) := by decide +kernel
theorem d2_36 : decode prog_29_method_6_code 36 = .ok (.iload 7, 2) := by decide +kernel
theorem d2_38 : decode prog_29_method_6_code 38 = .ok (.iinc 7 1, 3) := by decide +kernel
theorem d2_41 : decode prog_29_method_6_code 41 = .ok (.aload_n 0, 1) := by decide +kernel
theorem d2_42 : decode prog_29_method_6_code 42 = .ok (.iload 8, 2) := by decide +kernel
theorem d2_44 : decode prog_29_method_6_code 44 = .ok (.iinc 8 1, 3) := by decide +kernel
theorem d2_47 : decode prog_29_method_6_code 47 = .ok (.iaload, 1) := by decide +kernel
theorem d2_48 : decode prog_29_method_6_code 48 = .ok (.iastore, 1) := by decide +kernel
theorem d2_49 : decode prog_29_method_6_code 49 = .ok (.goto (-39), 3) := by decide +kernel
theorem d2_0 : decode prog_29_method_6_code 0 = .ok (.iconst 0, 1) := by decide +kernel
theorem d2_1 : decode prog_29_method_6_code 1 = .ok (.istore 7, 2) := by decide +kernel
theorem d2_3 : decode prog_29_method_6_code 3 = .ok (.iload_n 1, 1) := by decide +kernel
theorem d2_4 : decode prog_29_method_6_code 4 = .ok (.istore 8, 2) := by decide +kernel
theorem d2_6 : decode prog_29_method_6_code 6 = .ok (.iload 4, 2) := by decide +kernel
theorem d2_8 : decode prog_29_method_6_code 8 = .ok (.istore 9, 2) := by decide +kernel
theorem d3_0 : decode method_3_code 0 = .ok (.aload_n 0, 1) := by decide +kernel
theorem d3_1 : decode method_3_code 1 = .ok (.iconst 0, 1) := by decide +kernel
theorem d3_2 : decode method_3_code 2 = .ok (.iaload, 1) := by decide +kernel
theorem d3_3 : decode method_3_code 3 = .ok (.aload_n 1, 1) := by decide +kernel
theorem d3_4 : decode method_3_code 4 = .ok (.iconst 0, 1) := by decide +kernel
theorem d3_5 : decode method_3_code 5 = .ok (.iaload, 1) := by decide +kernel
theorem d3_6 : decode method_3_code 6 = .ok (.if_icmp .ne 74, 3) := by decide +kernel
theorem d3_80 : decode method_3_code 80 = .ok (.iconst 0, 1) := by decide +kernel
theorem d3_81 : decode method_3_code 81 = .ok (.ireturn, 1) := by decide +kernel
theorem d3_9 : decode method_3_code 9 = .ok (.aload_n 0, 1) := by decide +kernel
theorem d3_10 : decode method_3_code 10 = .ok (.iconst 1, 1) := by decide +kernel
theorem d3_11 : decode method_3_code 11 = .ok (.iaload, 1) := by decide +kernel
theorem d3_12 : decode method_3_code 12 = .ok (.aload_n 1, 1) := by decide +kernel
theorem d3_13 : decode method_3_code 13 = .ok (.iconst 1, 1) := by decide +kernel
theorem d3_14 : decode method_3_code 14 = .ok (.iaload, 1) := by decide +kernel
theorem d3_15 : decode method_3_code 15 = .ok (.if_icmp .ne 65, 3) := by decide +kernel
theorem d3_18 : decode method_3_code 18 = .ok (.aload_n 0, 1) := by decide +kernel
theorem d3_19 : decode method_3_code 19 = .ok (.iconst 2, 1) := by decide +kernel
theorem d3_20 : decode method_3_code 20 = .ok (.iaload, 1) := by decide +kernel
theorem d3_21 : decode method_3_code 21 = .ok (.aload_n 1, 1) := by decide +kernel
theorem d3_22 : decode method_3_code 22 = .ok (.iconst 2, 1) := by decide +kernel
theorem d3_23 : decode method_3_code 23 = .ok (.iaload, 1) := by decide +kernel
theorem d3_24 : decode method_3_code 24 = .ok (.if_icmp .ne 56, 3) := by decide +kernel
theorem d3_27 : decode method_3_code 27 = .ok (.aload_n 0, 1) := by decide +kernel
theorem d3_28 : decode method_3_code 28 = .ok (.iconst 3, 1) := by decide +kernel
theorem d3_29 : decode method_3_code 29 = .ok (.iaload, 1) := by decide +kernel
theorem d3_30 : decode method_3_code 30 = .ok (.aload_n 1, 1) := by decide +kernel
theorem d3_31 : decode method_3_code 31 = .ok (.iconst 3, 1) := by decide +kernel
theorem d3_32 : decode method_3_code 32 = .ok (.iaload, 1) := by decide +kernel
theorem d3_33 : decode method_3_code 33 = .ok (.if_icmp .ne 47, 3) := by decide +kernel
theorem d3_36 : decode method_3_code 36 = .ok (.aload_n 0, 1) := by decide +kernel
theorem d3_37 : decode method_3_code 37 = .ok (.iconst 4, 1) := by decide +kernel
theorem d3_38 : decode method_3_code 38 = .ok (.iaload, 1) := by decide +kernel
theorem d3_39 : decode method_3_code 39 = .ok (.aload_n 1, 1) := by decide +kernel
theorem d3_40 : decode method_3_code 40 = .ok (.iconst 4, 1) := by decide +kernel
theorem d3_41 : decode method_3_code 41 = .ok (.iaload, 1) := by decide +kernel
theorem d3_42 : decode method_3_code 42 = .ok (.if_icmp .ne 38, 3) := by decide +kernel
theorem d3_45 : decode method_3_code 45 = .ok (.aload_n 0, 1) := by decide +kernel
theorem d3_46 : decode method_3_code 46 = .ok (.iconst 5, 1) := by decide +kernel
theorem d3_47 : decode method_3_code 47 = .ok (.iaload, 1) := by decide +kernel
theorem d3_48 : decode method_3_code 48 = .ok (.aload_n 1, 1) := by decide +kernel
theorem d3_49 : decode method_3_code 49 = .ok (.iconst 5, 1) := by decide +kernel
theorem d3_50 : decode method_3_code 50 = .ok (.iaload, 1) := by decide +kernel
theorem d3_51 : decode method_3_code 51 = .ok (.if_icmp .ne 29, 3) := by decide +kernel
theorem d3_54 : decode method_3_code 54 = .ok (.aload_n 0, 1) := by decide +kernel
theorem d3_55 : decode method_3_code 55 = .ok (.bipush 6, 2) := by decide +kernel
theorem d3_57 : decode method_3_code 57 = .ok (.iaload, 1) := by decide +kernel
theorem d3_58 : decode method_3_code 58 = .ok (.aload_n 1, 1) := by decide +kernel
theorem d3_59 : decode method_3_code 59 = .ok (.bipush 6, 2) := by decide +kernel
theorem d3_61 : decode method_3_code 61 = .ok (.iaload, 1) := by decide +kernel
theorem d3_62 : decode method_3_code 62 = .ok (.if_icmp .ne 18, 3) := by decide +kernel
theorem d3_65 : decode method_3_code 65 = .ok (.aload_n 0, 1) := by decide +kernel
theorem d3_66 : decode method_3_code 66 = .ok (.bipush 7, 2) := by decide +kernel
theorem d3_68 : decode method_3_code 68 = .ok (.iaload, 1) := by decide +kernel
theorem d3_69 : decode method_3_code 69 = .ok (.aload_n 1, 1) := by decide +kernel
theorem d3_70 : decode method_3_code 70 = .ok (.bipush 7, 2) := by decide +kernel
theorem d3_72 : decode method_3_code 72 = .ok (.iaload, 1) := by decide +kernel
theorem d3_73 : decode method_3_code 73 = .ok (.if_icmp .ne 7, 3) := by decide +kernel
theorem d3_76 : decode method_3_code 76 = .ok (.iconst 1, 1) := by decide +kernel
theorem d3_77 : decode method_3_code 77 = .ok (.goto 4, 3) := by decide +kernel
theorem pd_0 : parseMethodDescriptor "([IIIIIII)I" = some ⟨[(.array .int), .int, .int, .int, .int, .int, .int], some .int⟩ := by decide +kernel
theorem pd_1 : parseMethodDescriptor "([III[III[I)I" = some ⟨[(.array .int), .int, .int, (.array .int), .int, .int, (.array .int)], some .int⟩ := by decide +kernel
theorem pd_2 : parseMethodDescriptor "([I[I)Z" = some ⟨[(.array .int), (.array .int)], some .boolean⟩ := by decide +kernel
/-- what the mask selects of the four -/
def own_sel (m u0 u1 u2 u3 : Int32) : List Int32 := (if m &&& 1 = 0 then [] else [u0]) ++ ((if m &&& 2 = 0 then [] else [u1]) ++ ((if m &&& 4 = 0 then [] else [u2]) ++ (if m &&& 8 = 0 then [] else [u3])))
def own_mg : List Int32 → List Int32 → List Int32
  | [], bs => bs
  | a :: as, [] => a :: as
  | a :: as, b :: bs => if a < b then a :: own_mg as (b :: bs) else if b < a then b :: own_mg (a :: as) bs else a :: own_mg as bs
termination_by as bs => as.length + bs.length
theorem own_mg_nil (bs : List Int32) : own_mg [] bs = bs := by rw [own_mg]
theorem own_mg_nil' (as : List Int32) : own_mg as [] = as := by cases as <;> rw [own_mg]
theorem own_mg_cons (a b : Int32) (as bs : List Int32) : own_mg (a :: as) (b :: bs) = if a < b then a :: own_mg as (b :: bs) else if b < a then b :: own_mg (a :: as) bs else a :: own_mg as bs := by rw [own_mg]
theorem own_mg_le : ∀ (n : Nat) (as bs : List Int32), as.length + bs.length ≤ n → (own_mg as bs).length ≤ as.length + bs.length
  | n, [], bs, _ => by rw [own_mg_nil]; simp
  | n, a :: as, [], _ => by rw [own_mg_nil']; simp
  | 0, a :: as, b :: bs, h => by simp at h
  | n + 1, a :: as, b :: bs, h => by
    rw [own_mg_cons]
    simp at h
    split
    · have := own_mg_le n as (b :: bs) (by simp; omega)
      simp at this ⊢; omega
    · split
      · have := own_mg_le n (a :: as) bs (by simp; omega)
        simp at this ⊢; omega
      · have := own_mg_le n as bs (by omega)
        simp; omega
def Q1 (Z : State) (a1 : Addr) (i : Nat) (vs : List Value) (us : List Int32) (h0 : Heap) (n0 : Nat) (v : Option Value) (h : Heap) (L : List Loc) : Prop := ∃ r : Int32, v = some (.int r) ∧ r.toInt = ((i + us.length : Nat) : Int) ∧ Fr n0 L ∧ Keep h0 h [a1] ∧ own_Arr Z h a1 .int (own_put vs i us)
def Q2 (Z : State) (a7 : Addr) (vi : List Value) (A B : List Int32) (h0 : Heap) (n0 : Nat) (v : Option Value) (h : Heap) (L : List Loc) : Prop := ∃ r : Int32, v = some (.int r) ∧ r.toInt = ((own_mg A B).length : Int) ∧ Fr n0 L ∧ Keep h0 h [a7] ∧ own_Arr Z h a7 .int (own_put vi 0 (own_mg A B))
def Q3 (xs ys : List Int32) (h0 : Heap) (n0 : Nat) (v : Option Value) (h : Heap) (L : List Loc) : Prop := v = some (.int (if xs = ys then 1 else 0)) ∧ Fr n0 L ∧ h = h0
def Q0 (n0 : Nat) (v : Option Value) (h : Heap) (L : List Loc) : Prop := v = some (.int (1 : Int32)) ∧ Fr n0 L
theorem ef_1 (m : MethodId) (a1 : Addr) (p2 : Int32) (p3 : Int32) (p4 : Int32) (p5 : Int32) (p6 : Int32) (p7 : Int32) : entryFrame m #[(.ref a1), (.int p2), (.int p3), (.int p4), (.int p5), (.int p6), (.int p7)] 8 = mkF m 0 #[.val (.ref a1), .val (.int p2), .val (.int p3), .val (.int p4), .val (.int p5), .val (.int p6), .val (.int p7), .unset] [] := by first | (simp [entryFrame, mkF, argsToLocals, Value.category]; done) | rfl
set_option maxRecDepth 65536 in
set_option maxHeartbeats 40000000 in
theorem rm1 (l : Launch) (Z : State) (a0 : Array Value) (hw : ∀ d ∈ tables_1, d.before a0 Z = true) (ws : List Jvm.Cond) (a1 : Addr) (p2 : Int32) (p3 : Int32) (p4 : Int32) (p5 : Int32) (p6 : Int32) (p7 : Int32) (i : Nat) (vs : List Value) (h0 : Heap) (n0 : Nat) (Z0 : n0 ≤ h0.size) (V_a1_0 : own_Arr Z h0 a1 .int vs) (g_a1 : n0 ≤ a1) (hst : p2.toInt = (i : Int)) (hi : i + 4 ≤ vs.length) (hvl : vs.length < 2 ^ 31) :
    MetFree l (⟨"com/example/valuation/valuation/provenance/MonomialUnionPinLaw", "place", "([IIIIIII)I"⟩ : MethodName) (head1 (Jvm.Cond.code (⟨"com/example/valuation/valuation/provenance/MonomialUnionPinLaw", "place", "([IIIIIII)I"⟩ : MethodName) method_2_code 8 (some .int) :: ws) ({ frames := 0, cells := 0, slots := 0, locals := 0 } : Room)) (fun a U => a = #[(.ref a1), (.int p2), (.int p3), (.int p4), (.int p5), (.int p6), (.int p7)] ∧ Z.Warmed39 U.vm ∧ U.heap = h0) (fun _ _ _ _ _ => True) (fun _ U o U' => ∃ v L, o = .returned v ∧ Q1 Z a1 i vs (own_sel p3 p4 p5 p6 p7) h0 n0 v U'.heap L ∧ FrameEnd U o U' L ({ frames := 0, cells := 0, slots := 0, locals := 0 } : Room).cells ({ frames := 0, cells := 0, slots := 0, locals := 0 } : Room).slots) := by
  refine MetFree.of_bodySF (plainFor_of_name pn_0) hisR ?_
  intro p e s m args below meth c s₁ Bd hml0 hP hK
  obtain ⟨rfl, hZ, hh⟩ := hP
  have hx := Bd.exec
  have hby := Bd.bytes
  have hml : c.maxLocals = 8 := hml0
  have hown : s.vm.findClass "com/example/valuation/valuation/provenance/MonomialUnionPinLaw" = some m.cls := findClass_of_methodNamed Bd.named
  have hnm := (name_of_methodNamed Bd.named Bd.method).1
  have hlk : meth.locks = false := BodyLoose.notSynchronized Bd
  have X0 : Stand p l e ({ frames := 0, cells := 0, slots := 0, locals := 0 } : Room) s m #[(.ref a1), (.int p2), (.int p3), (.int p4), (.int p5), (.int p6), (.int p7)] below meth c s₁ [] 0 0 := Stand.of_body Bd
  have e0 : s₁.heap = h0 := by rw [← hh, Bd.state]; rfl
  have N0 := Fr.nil n0
  refine own_start (Q := Q1 Z a1 i vs (own_sel p3 p4 p5 p6 p7) h0 n0) (ef_1 m a1 p2 p3 p4 p5 p6 p7) ?_
  have K0 := Keep.refl h0 [a1]
  show own_Go p e below _ s₁ (mkF m 0 #[.val (.ref a1), .val (.int p2), .val (.int p3), .val (.int p4), .val (.int p5), .val (.int p6), .val (.int p7), .unset] [])
  refine own_by (fun t_ k_ => XS.iloadN X0.here hx rfl (hb hby d1_0) rfl k_) ?_
  show own_Go p e below _ s₁ (mkF m 1 #[.val (.ref a1), .val (.int p2), .val (.int p3), .val (.int p4), .val (.int p5), .val (.int p6), .val (.int p7), .unset] [(.int p2)])
  refine own_by (fun t_ k_ => XS.istore X0.here hx rfl (hb hby d1_1) rfl (l' := #[.val (.ref a1), .val (.int p2), .val (.int p3), .val (.int p4), .val (.int p5), .val (.int p6), .val (.int p7), .val (.int p2)]) rfl k_) ?_
  show own_Go p e below _ s₁ (mkF m 3 #[.val (.ref a1), .val (.int p2), .val (.int p3), .val (.int p4), .val (.int p5), .val (.int p6), .val (.int p7), .val (.int p2)] [])
  refine own_by (fun t_ k_ => XS.iloadN X0.here hx rfl (hb hby d1_3) rfl k_) ?_
  show own_Go p e below _ s₁ (mkF m 4 #[.val (.ref a1), .val (.int p2), .val (.int p3), .val (.int p4), .val (.int p5), .val (.int p6), .val (.int p7), .val (.int p2)] [(.int p3)])
  refine own_by (fun t_ k_ => XS.iconst X0.here hx rfl (hb hby d1_4) k_) ?_
  show own_Go p e below _ s₁ (mkF m 5 #[.val (.ref a1), .val (.int p2), .val (.int p3), .val (.int p4), .val (.int p5), .val (.int p6), .val (.int p7), .val (.int p2)] [(.int (1 : Int32)), (.int p3)])
  refine own_by (fun t_ k_ => XS.iand X0.here hx rfl (hb hby d1_5) rfl k_) ?_
  show own_Go p e below _ s₁ (mkF m 6 #[.val (.ref a1), .val (.int p2), .val (.int p3), .val (.int p4), .val (.int p5), .val (.int p6), .val (.int p7), .val (.int p2)] [(.int (p3 &&& (1 : Int32)))])
  refine own_if X0 hx 17 (hb hby d1_6) (by decide) (by decide) (fun (hc6 : (p3 &&& (1 : Int32)) = (0 : Int32)) => ?_) (fun (hc6 : ¬ (p3 &&& (1 : Int32)) = (0 : Int32)) => ?_)
  · show own_Go p e below _ s₁ (mkF m 17 #[.val (.ref a1), .val (.int p2), .val (.int p3), .val (.int p4), .val (.int p5), .val (.int p6), .val (.int p7), .val (.int p2)] [])
    refine own_by (fun t_ k_ => XS.iloadN X0.here hx rfl (hb hby d1_17) rfl k_) ?_
    show own_Go p e below _ s₁ (mkF m 18 #[.val (.ref a1), .val (.int p2), .val (.int p3), .val (.int p4), .val (.int p5), .val (.int p6), .val (.int p7), .val (.int p2)] [(.int p3)])
    refine own_by (fun t_ k_ => XS.iconst X0.here hx rfl (hb hby d1_18) k_) ?_
    show own_Go p e below _ s₁ (mkF m 19 #[.val (.ref a1), .val (.int p2), .val (.int p3), .val (.int p4), .val (.int p5), .val (.int p6), .val (.int p7), .val (.int p2)] [(.int (2 : Int32)), (.int p3)])
    refine own_by (fun t_ k_ => XS.iand X0.here hx rfl (hb hby d1_19) rfl k_) ?_
    show own_Go p e below _ s₁ (mkF m 20 #[.val (.ref a1), .val (.int p2), .val (.int p3), .val (.int p4), .val (.int p5), .val (.int p6), .val (.int p7), .val (.int p2)] [(.int (p3 &&& (2 : Int32)))])
    refine own_if X0 hx 32 (hb hby d1_20) (by decide) (by decide) (fun (hc20 : (p3 &&& (2 : Int32)) = (0 : Int32)) => ?_) (fun (hc20 : ¬ (p3 &&& (2 : Int32)) = (0 : Int32)) => ?_)
    · show own_Go p e below _ s₁ (mkF m 32 #[.val (.ref a1), .val (.int p2), .val (.int p3), .val (.int p4), .val (.int p5), .val (.int p6), .val (.int p7), .val (.int p2)] [])
      refine own_by (fun t_ k_ => XS.iloadN X0.here hx rfl (hb hby d1_32) rfl k_) ?_
      show own_Go p e below _ s₁ (mkF m 33 #[.val (.ref a1), .val (.int p2), .val (.int p3), .val (.int p4), .val (.int p5), .val (.int p6), .val (.int p7), .val (.int p2)] [(.int p3)])
      refine own_by (fun t_ k_ => XS.iconst X0.here hx rfl (hb hby d1_33) k_) ?_
      show own_Go p e below _ s₁ (mkF m 34 #[.val (.ref a1), .val (.int p2), .val (.int p3), .val (.int p4), .val (.int p5), .val (.int p6), .val (.int p7), .val (.int p2)] [(.int (4 : Int32)), (.int p3)])
      refine own_by (fun t_ k_ => XS.iand X0.here hx rfl (hb hby d1_34) rfl k_) ?_
      show own_Go p e below _ s₁ (mkF m 35 #[.val (.ref a1), .val (.int p2), .val (.int p3), .val (.int p4), .val (.int p5), .val (.int p6), .val (.int p7), .val (.int p2)] [(.int (p3 &&& (4 : Int32)))])
      refine own_if X0 hx 47 (hb hby d1_35) (by decide) (by decide) (fun (hc35 : (p3 &&& (4 : Int32)) = (0 : Int32)) => ?_) (fun (hc35 : ¬ (p3 &&& (4 : Int32)) = (0 : Int32)) => ?_)
      · show own_Go p e below _ s₁ (mkF m 47 #[.val (.ref a1), .val (.int p2), .val (.int p3), .val (.int p4), .val (.int p5), .val (.int p6), .val (.int p7), .val (.int p2)] [])
        refine own_by (fun t_ k_ => XS.iloadN X0.here hx rfl (hb hby d1_47) rfl k_) ?_
        show own_Go p e below _ s₁ (mkF m 48 #[.val (.ref a1), .val (.int p2), .val (.int p3), .val (.int p4), .val (.int p5), .val (.int p6), .val (.int p7), .val (.int p2)] [(.int p3)])
        refine own_by (fun t_ k_ => XS.bipush X0.here hx rfl (hb hby d1_48) k_) ?_
        show own_Go p e below _ s₁ (mkF m 50 #[.val (.ref a1), .val (.int p2), .val (.int p3), .val (.int p4), .val (.int p5), .val (.int p6), .val (.int p7), .val (.int p2)] [(.int (8 : Int32)), (.int p3)])
        refine own_by (fun t_ k_ => XS.iand X0.here hx rfl (hb hby d1_50) rfl k_) ?_
        show own_Go p e below _ s₁ (mkF m 51 #[.val (.ref a1), .val (.int p2), .val (.int p3), .val (.int p4), .val (.int p5), .val (.int p6), .val (.int p7), .val (.int p2)] [(.int (p3 &&& (8 : Int32)))])
        refine own_if X0 hx 63 (hb hby d1_51) (by decide) (by decide) (fun (hc51 : (p3 &&& (8 : Int32)) = (0 : Int32)) => ?_) (fun (hc51 : ¬ (p3 &&& (8 : Int32)) = (0 : Int32)) => ?_)
        · show own_Go p e below _ s₁ (mkF m 63 #[.val (.ref a1), .val (.int p2), .val (.int p3), .val (.int p4), .val (.int p5), .val (.int p6), .val (.int p7), .val (.int p2)] [])
          refine own_by (fun t_ k_ => XS.iload X0.here hx rfl (hb hby d1_63) rfl k_) ?_
          show own_Go p e below _ s₁ (mkF m 65 #[.val (.ref a1), .val (.int p2), .val (.int p3), .val (.int p4), .val (.int p5), .val (.int p6), .val (.int p7), .val (.int p2)] [(.int p2)])
          refine own_retI X0 hx hlk Bd.returns (hb hby d1_65) e0 (by decide) (by decide) ?_
          have hV := V_a1_0
          refine ⟨_, rfl, ?_, N0, K0, ?_⟩
          · simp only [own_sel, hc6, hc20, hc35, hc51, if_true, if_false, List.nil_append, List.append_nil, List.cons_append]; exact Eq.trans hst (by simp <;> omega)
          · simp only [own_sel, hc6, hc20, hc35, hc51, if_true, if_false, List.nil_append, List.append_nil, List.cons_append]; exact hV
        · show own_Go p e below _ s₁ (mkF m 54 #[.val (.ref a1), .val (.int p2), .val (.int p3), .val (.int p4), .val (.int p5), .val (.int p6), .val (.int p7), .val (.int p2)] [])
          refine own_by (fun t_ k_ => XS.aloadN X0.here hx rfl (hb hby d1_54) rfl rfl k_) ?_
          show own_Go p e below _ s₁ (mkF m 55 #[.val (.ref a1), .val (.int p2), .val (.int p3), .val (.int p4), .val (.int p5), .val (.int p6), .val (.int p7), .val (.int p2)] [(.ref a1)])
          refine own_by (fun t_ k_ => XS.iload X0.here hx rfl (hb hby d1_55) rfl k_) ?_
          show own_Go p e below _ s₁ (mkF m 57 #[.val (.ref a1), .val (.int p2), .val (.int p3), .val (.int p4), .val (.int p5), .val (.int p6), .val (.int p7), .val (.int p2)] [(.int p2), (.ref a1)])
          refine own_by (fun t_ k_ => XS.iload X0.here hx rfl (hb hby d1_57) rfl k_) ?_
          show own_Go p e below _ s₁ (mkF m 59 #[.val (.ref a1), .val (.int p2), .val (.int p3), .val (.int p4), .val (.int p5), .val (.int p6), .val (.int p7), .val (.int p2)] [(.int p7), (.int p2), (.ref a1)])
          refine own_iastore X0 hx hZ e0 V_a1_0 i hst (by first | omega | (simp; omega)) (hb hby d1_59) ?_
          intro T1 h1 X1 e1 W1 A1
          have V1_0 : own_Arr Z h1 a1 .int (vs.set i (.int p7)) := A1
          have N1 := Fr.snoc X1 N0 g_a1
          have sz1 : n0 ≤ h1.size := Nat.le_trans Z0 (Keep.of_wr W1).1
          have K1 : Keep h0 h1 [a1] := K0.wr W1 (Or.inl (List.mem_cons_self ..))
          show own_Go p e below _ T1 (mkF m 60 #[.val (.ref a1), .val (.int p2), .val (.int p3), .val (.int p4), .val (.int p5), .val (.int p6), .val (.int p7), .val (.int p2)] [])
          refine own_by (fun t_ k_ => XS.iinc X1.here hx rfl (hb hby d1_60) rfl (l' := #[.val (.ref a1), .val (.int p2), .val (.int p3), .val (.int p4), .val (.int p5), .val (.int p6), .val (.int p7), .val (.int (p2 + (1 : Int32)))]) rfl k_) ?_
          show own_Go p e below _ T1 (mkF m 63 #[.val (.ref a1), .val (.int p2), .val (.int p3), .val (.int p4), .val (.int p5), .val (.int p6), .val (.int p7), .val (.int (p2 + (1 : Int32)))] [])
          refine own_by (fun t_ k_ => XS.iload X1.here hx rfl (hb hby d1_63) rfl k_) ?_
          show own_Go p e below _ T1 (mkF m 65 #[.val (.ref a1), .val (.int p2), .val (.int p3), .val (.int p4), .val (.int p5), .val (.int p6), .val (.int p7), .val (.int (p2 + (1 : Int32)))] [(.int (p2 + (1 : Int32)))])
          refine own_retI X1 hx hlk Bd.returns (hb hby d1_65) e1 (by decide) (by decide) ?_
          have hV := V1_0
          refine ⟨_, rfl, ?_, N1, K1, ?_⟩
          · simp only [own_sel, hc6, hc20, hc35, hc51, if_true, if_false, List.nil_append, List.append_nil, List.cons_append]; exact Eq.trans (own_inc hst (by omega)) (by simp <;> omega)
          · simp only [own_sel, hc6, hc20, hc35, hc51, if_true, if_false, List.nil_append, List.append_nil, List.cons_append]; exact hV
      · show own_Go p e below _ s₁ (mkF m 38 #[.val (.ref a1), .val (.int p2), .val (.int p3), .val (.int p4), .val (.int p5), .val (.int p6), .val (.int p7), .val (.int p2)] [])
        refine own_by (fun t_ k_ => XS.aloadN X0.here hx rfl (hb hby d1_38) rfl rfl k_) ?_
        show own_Go p e below _ s₁ (mkF m 39 #[.val (.ref a1), .val (.int p2), .val (.int p3), .val (.int p4), .val (.int p5), .val (.int p6), .val (.int p7), .val (.int p2)] [(.ref a1)])
        refine own_by (fun t_ k_ => XS.iload X0.here hx rfl (hb hby d1_39) rfl k_) ?_
        show own_Go p e below _ s₁ (mkF m 41 #[.val (.ref a1), .val (.int p2), .val (.int p3), .val (.int p4), .val (.int p5), .val (.int p6), .val (.int p7), .val (.int p2)] [(.int p2), (.ref a1)])
        refine own_by (fun t_ k_ => XS.iload X0.here hx rfl (hb hby d1_41) rfl k_) ?_
        show own_Go p e below _ s₁ (mkF m 43 #[.val (.ref a1), .val (.int p2), .val (.int p3), .val (.int p4), .val (.int p5), .val (.int p6), .val (.int p7), .val (.int p2)] [(.int p6), (.int p2), (.ref a1)])
        refine own_iastore X0 hx hZ e0 V_a1_0 i hst (by first | omega | (simp; omega)) (hb hby d1_43) ?_
        intro T2 h2 X2 e2 W2 A2
        have V2_0 : own_Arr Z h2 a1 .int (vs.set i (.int p6)) := A2
        have N2 := Fr.snoc X2 N0 g_a1
        have sz2 : n0 ≤ h2.size := Nat.le_trans Z0 (Keep.of_wr W2).1
        have K2 : Keep h0 h2 [a1] := K0.wr W2 (Or.inl (List.mem_cons_self ..))
        show own_Go p e below _ T2 (mkF m 44 #[.val (.ref a1), .val (.int p2), .val (.int p3), .val (.int p4), .val (.int p5), .val (.int p6), .val (.int p7), .val (.int p2)] [])
        refine own_by (fun t_ k_ => XS.iinc X2.here hx rfl (hb hby d1_44) rfl (l' := #[.val (.ref a1), .val (.int p2), .val (.int p3), .val (.int p4), .val (.int p5), .val (.int p6), .val (.int p7), .val (.int (p2 + (1 : Int32)))]) rfl k_) ?_
        show own_Go p e below _ T2 (mkF m 47 #[.val (.ref a1), .val (.int p2), .val (.int p3), .val (.int p4), .val (.int p5), .val (.int p6), .val (.int p7), .val (.int (p2 + (1 : Int32)))] [])
        refine own_by (fun t_ k_ => XS.iloadN X2.here hx rfl (hb hby d1_47) rfl k_) ?_
        show own_Go p e below _ T2 (mkF m 48 #[.val (.ref a1), .val (.int p2), .val (.int p3), .val (.int p4), .val (.int p5), .val (.int p6), .val (.int p7), .val (.int (p2 + (1 : Int32)))] [(.int p3)])
        refine own_by (fun t_ k_ => XS.bipush X2.here hx rfl (hb hby d1_48) k_) ?_
        show own_Go p e below _ T2 (mkF m 50 #[.val (.ref a1), .val (.int p2), .val (.int p3), .val (.int p4), .val (.int p5), .val (.int p6), .val (.int p7), .val (.int (p2 + (1 : Int32)))] [(.int (8 : Int32)), (.int p3)])
        refine own_by (fun t_ k_ => XS.iand X2.here hx rfl (hb hby d1_50) rfl k_) ?_
        show own_Go p e below _ T2 (mkF m 51 #[.val (.ref a1), .val (.int p2), .val (.int p3), .val (.int p4), .val (.int p5), .val (.int p6), .val (.int p7), .val (.int (p2 + (1 : Int32)))] [(.int (p3 &&& (8 : Int32)))])
        refine own_if X2 hx 63 (hb hby d1_51) (by decide) (by decide) (fun (hc51 : (p3 &&& (8 : Int32)) = (0 : Int32)) => ?_) (fun (hc51 : ¬ (p3 &&& (8 : Int32)) = (0 : Int32)) => ?_)
        · show own_Go p e below _ T2 (mkF m 63 #[.val (.ref a1), .val (.int p2), .val (.int p3), .val (.int p4), .val (.int p5), .val (.int p6), .val (.int p7), .val (.int (p2 + (1 : Int32)))] [])
          refine own_by (fun t_ k_ => XS.iload X2.here hx rfl (hb hby d1_63) rfl k_) ?_
          show own_Go p e below _ T2 (mkF m 65 #[.val (.ref a1), .val (.int p2), .val (.int p3), .val (.int p4), .val (.int p5), .val (.int p6), .val (.int p7), .val (.int (p2 + (1 : Int32)))] [(.int (p2 + (1 : Int32)))])
          refine own_retI X2 hx hlk Bd.returns (hb hby d1_65) e2 (by decide) (by decide) ?_
          have hV := V2_0
          refine ⟨_, rfl, ?_, N2, K2, ?_⟩
          · simp only [own_sel, hc6, hc20, hc35, hc51, if_true, if_false, List.nil_append, List.append_nil, List.cons_append]; exact Eq.trans (own_inc hst (by omega)) (by simp <;> omega)
          · simp only [own_sel, hc6, hc20, hc35, hc51, if_true, if_false, List.nil_append, List.append_nil, List.cons_append]; exact hV
        · show own_Go p e below _ T2 (mkF m 54 #[.val (.ref a1), .val (.int p2), .val (.int p3), .val (.int p4), .val (.int p5), .val (.int p6), .val (.int p7), .val (.int (p2 + (1 : Int32)))] [])
          refine own_by (fun t_ k_ => XS.aloadN X2.here hx rfl (hb hby d1_54) rfl rfl k_) ?_
          show own_Go p e below _ T2 (mkF m 55 #[.val (.ref a1), .val (.int p2), .val (.int p3), .val (.int p4), .val (.int p5), .val (.int p6), .val (.int p7), .val (.int (p2 + (1 : Int32)))] [(.ref a1)])
          refine own_by (fun t_ k_ => XS.iload X2.here hx rfl (hb hby d1_55) rfl k_) ?_
          show own_Go p e below _ T2 (mkF m 57 #[.val (.ref a1), .val (.int p2), .val (.int p3), .val (.int p4), .val (.int p5), .val (.int p6), .val (.int p7), .val (.int (p2 + (1 : Int32)))] [(.int (p2 + (1 : Int32))), (.ref a1)])
          refine own_by (fun t_ k_ => XS.iload X2.here hx rfl (hb hby d1_57) rfl k_) ?_
          show own_Go p e below _ T2 (mkF m 59 #[.val (.ref a1), .val (.int p2), .val (.int p3), .val (.int p4), .val (.int p5), .val (.int p6), .val (.int p7), .val (.int (p2 + (1 : Int32)))] [(.int p7), (.int (p2 + (1 : Int32))), (.ref a1)])
          refine own_iastore X2 hx hZ e2 V2_0 (i + 1) (own_inc hst (by omega)) (by first | omega | (simp; omega)) (hb hby d1_59) ?_
          intro T3 h3 X3 e3 W3 A3
          have V3_0 : own_Arr Z h3 a1 .int ((vs.set i (.int p6)).set (i + 1) (.int p7)) := A3
          have N3 := Fr.snoc X3 N2 g_a1
          have sz3 : n0 ≤ h3.size := Nat.le_trans sz2 (Keep.of_wr W3).1
          have K3 : Keep h0 h3 [a1] := K2.wr W3 (Or.inl (List.mem_cons_self ..))
          show own_Go p e below _ T3 (mkF m 60 #[.val (.ref a1), .val (.int p2), .val (.int p3), .val (.int p4), .val (.int p5), .val (.int p6), .val (.int p7), .val (.int (p2 + (1 : Int32)))] [])
          refine own_by (fun t_ k_ => XS.iinc X3.here hx rfl (hb hby d1_60) rfl (l' := #[.val (.ref a1), .val (.int p2), .val (.int p3), .val (.int p4), .val (.int p5), .val (.int p6), .val (.int p7), .val (.int ((p2 + (1 : Int32)) + (1 : Int32)))]) rfl k_) ?_
          show own_Go p e below _ T3 (mkF m 63 #[.val (.ref a1), .val (.int p2), .val (.int p3), .val (.int p4), .val (.int p5), .val (.int p6), .val (.int p7), .val (.int ((p2 + (1 : Int32)) + (1 : Int32)))] [])
          refine own_by (fun t_ k_ => XS.iload X3.here hx rfl (hb hby d1_63) rfl k_) ?_
          show own_Go p e below _ T3 (mkF m 65 #[.val (.ref a1), .val (.int p2), .val (.int p3), .val (.int p4), .val (.int p5), .val (.int p6), .val (.int p7), .val (.int ((p2 + (1 : Int32)) + (1 : Int32)))] [(.int ((p2 + (1 : Int32)) + (1 : Int32)))])
          refine own_retI X3 hx hlk Bd.returns (hb hby d1_65) e3 (by decide) (by decide) ?_
          have hV := V3_0
          refine ⟨_, rfl, ?_, N3, K3, ?_⟩
          · simp only [own_sel, hc6, hc20, hc35, hc51, if_true, if_false, List.nil_append, List.append_nil, List.cons_append]; exact Eq.trans (own_inc (own_inc hst (by omega)) (by omega)) (by simp <;> omega)
          · simp only [own_sel, hc6, hc20, hc35, hc51, if_true, if_false, List.nil_append, List.append_nil, List.cons_append]; exact hV
    · show own_Go p e below _ s₁ (mkF m 23 #[.val (.ref a1), .val (.int p2), .val (.int p3), .val (.int p4), .val (.int p5), .val (.int p6), .val (.int p7), .val (.int p2)] [])
      refine own_by (fun t_ k_ => XS.aloadN X0.here hx rfl (hb hby d1_23) rfl rfl k_) ?_
      show own_Go p e below _ s₁ (mkF m 24 #[.val (.ref a1), .val (.int p2), .val (.int p3), .val (.int p4), .val (.int p5), .val (.int p6), .val (.int p7), .val (.int p2)] [(.ref a1)])
      refine own_by (fun t_ k_ => XS.iload X0.here hx rfl (hb hby d1_24) rfl k_) ?_
      show own_Go p e below _ s₁ (mkF m 26 #[.val (.ref a1), .val (.int p2), .val (.int p3), .val (.int p4), .val (.int p5), .val (.int p6), .val (.int p7), .val (.int p2)] [(.int p2), (.ref a1)])
      refine own_by (fun t_ k_ => XS.iload X0.here hx rfl (hb hby d1_26) rfl k_) ?_
      show own_Go p e below _ s₁ (mkF m 28 #[.val (.ref a1), .val (.int p2), .val (.int p3), .val (.int p4), .val (.int p5), .val (.int p6), .val (.int p7), .val (.int p2)] [(.int p5), (.int p2), (.ref a1)])
      refine own_iastore X0 hx hZ e0 V_a1_0 i hst (by first | omega | (simp; omega)) (hb hby d1_28) ?_
      intro T4 h4 X4 e4 W4 A4
      have V4_0 : own_Arr Z h4 a1 .int (vs.set i (.int p5)) := A4
      have N4 := Fr.snoc X4 N0 g_a1
      have sz4 : n0 ≤ h4.size := Nat.le_trans Z0 (Keep.of_wr W4).1
      have K4 : Keep h0 h4 [a1] := K0.wr W4 (Or.inl (List.mem_cons_self ..))
      show own_Go p e below _ T4 (mkF m 29 #[.val (.ref a1), .val (.int p2), .val (.int p3), .val (.int p4), .val (.int p5), .val (.int p6), .val (.int p7), .val (.int p2)] [])
      refine own_by (fun t_ k_ => XS.iinc X4.here hx rfl (hb hby d1_29) rfl (l' := #[.val (.ref a1), .val (.int p2), .val (.int p3), .val (.int p4), .val (.int p5), .val (.int p6), .val (.int p7), .val (.int (p2 + (1 : Int32)))]) rfl k_) ?_
      show own_Go p e below _ T4 (mkF m 32 #[.val (.ref a1), .val (.int p2), .val (.int p3), .val (.int p4), .val (.int p5), .val (.int p6), .val (.int p7), .val (.int (p2 + (1 : Int32)))] [])
      refine own_by (fun t_ k_ => XS.iloadN X4.here hx rfl (hb hby d1_32) rfl k_) ?_
      show own_Go p e below _ T4 (mkF m 33 #[.val (.ref a1), .val (.int p2), .val (.int p3), .val (.int p4), .val (.int p5), .val (.int p6), .val (.int p7), .val (.int (p2 + (1 : Int32)))] [(.int p3)])
      refine own_by (fun t_ k_ => XS.iconst X4.here hx rfl (hb hby d1_33) k_) ?_
      show own_Go p e below _ T4 (mkF m 34 #[.val (.ref a1), .val (.int p2), .val (.int p3), .val (.int p4), .val (.int p5), .val (.int p6), .val (.int p7), .val (.int (p2 + (1 : Int32)))] [(.int (4 : Int32)), (.int p3)])
      refine own_by (fun t_ k_ => XS.iand X4.here hx rfl (hb hby d1_34) rfl k_) ?_
      show own_Go p e below _ T4 (mkF m 35 #[.val (.ref a1), .val (.int p2), .val (.int p3), .val (.int p4), .val (.int p5), .val (.int p6), .val (.int p7), .val (.int (p2 + (1 : Int32)))] [(.int (p3 &&& (4 : Int32)))])
      refine own_if X4 hx 47 (hb hby d1_35) (by decide) (by decide) (fun (hc35 : (p3 &&& (4 : Int32)) = (0 : Int32)) => ?_) (fun (hc35 : ¬ (p3 &&& (4 : Int32)) = (0 : Int32)) => ?_)
      · show own_Go p e below _ T4 (mkF m 47 #[.val (.ref a1), .val (.int p2), .val (.int p3), .val (.int p4), .val (.int p5), .val (.int p6), .val (.int p7), .val (.int (p2 + (1 : Int32)))] [])
        refine own_by (fun t_ k_ => XS.iloadN X4.here hx rfl (hb hby d1_47) rfl k_) ?_
        show own_Go p e below _ T4 (mkF m 48 #[.val (.ref a1), .val (.int p2), .val (.int p3), .val (.int p4), .val (.int p5), .val (.int p6), .val (.int p7), .val (.int (p2 + (1 : Int32)))] [(.int p3)])
        refine own_by (fun t_ k_ => XS.bipush X4.here hx rfl (hb hby d1_48) k_) ?_
        show own_Go p e below _ T4 (mkF m 50 #[.val (.ref a1), .val (.int p2), .val (.int p3), .val (.int p4), .val (.int p5), .val (.int p6), .val (.int p7), .val (.int (p2 + (1 : Int32)))] [(.int (8 : Int32)), (.int p3)])
        refine own_by (fun t_ k_ => XS.iand X4.here hx rfl (hb hby d1_50) rfl k_) ?_
        show own_Go p e below _ T4 (mkF m 51 #[.val (.ref a1), .val (.int p2), .val (.int p3), .val (.int p4), .val (.int p5), .val (.int p6), .val (.int p7), .val (.int (p2 + (1 : Int32)))] [(.int (p3 &&& (8 : Int32)))])
        refine own_if X4 hx 63 (hb hby d1_51) (by decide) (by decide) (fun (hc51 : (p3 &&& (8 : Int32)) = (0 : Int32)) => ?_) (fun (hc51 : ¬ (p3 &&& (8 : Int32)) = (0 : Int32)) => ?_)
        · show own_Go p e below _ T4 (mkF m 63 #[.val (.ref a1), .val (.int p2), .val (.int p3), .val (.int p4), .val (.int p5), .val (.int p6), .val (.int p7), .val (.int (p2 + (1 : Int32)))] [])
          refine own_by (fun t_ k_ => XS.iload X4.here hx rfl (hb hby d1_63) rfl k_) ?_
          show own_Go p e below _ T4 (mkF m 65 #[.val (.ref a1), .val (.int p2), .val (.int p3), .val (.int p4), .val (.int p5), .val (.int p6), .val (.int p7), .val (.int (p2 + (1 : Int32)))] [(.int (p2 + (1 : Int32)))])
          refine own_retI X4 hx hlk Bd.returns (hb hby d1_65) e4 (by decide) (by decide) ?_
          have hV := V4_0
          refine ⟨_, rfl, ?_, N4, K4, ?_⟩
          · simp only [own_sel, hc6, hc20, hc35, hc51, if_true, if_false, List.nil_append, List.append_nil, List.cons_append]; exact Eq.trans (own_inc hst (by omega)) (by simp <;> omega)
          · simp only [own_sel, hc6, hc20, hc35, hc51, if_true, if_false, List.nil_append, List.append_nil, List.cons_append]; exact hV
        · show own_Go p e below _ T4 (mkF m 54 #[.val (.ref a1), .val (.int p2), .val (.int p3), .val (.int p4), .val (.int p5), .val (.int p6), .val (.int p7), .val (.int (p2 + (1 : Int32)))] [])
          refine own_by (fun t_ k_ => XS.aloadN X4.here hx rfl (hb hby d1_54) rfl rfl k_) ?_
          show own_Go p e below _ T4 (mkF m 55 #[.val (.ref a1), .val (.int p2), .val (.int p3), .val (.int p4), .val (.int p5), .val (.int p6), .val (.int p7), .val (.int (p2 + (1 : Int32)))] [(.ref a1)])
          refine own_by (fun t_ k_ => XS.iload X4.here hx rfl (hb hby d1_55) rfl k_) ?_
          show own_Go p e below _ T4 (mkF m 57 #[.val (.ref a1), .val (.int p2), .val (.int p3), .val (.int p4), .val (.int p5), .val (.int p6), .val (.int p7), .val (.int (p2 + (1 : Int32)))] [(.int (p2 + (1 : Int32))), (.ref a1)])
          refine own_by (fun t_ k_ => XS.iload X4.here hx rfl (hb hby d1_57) rfl k_) ?_
          show own_Go p e below _ T4 (mkF m 59 #[.val (.ref a1), .val (.int p2), .val (.int p3), .val (.int p4), .val (.int p5), .val (.int p6), .val (.int p7), .val (.int (p2 + (1 : Int32)))] [(.int p7), (.int (p2 + (1 : Int32))), (.ref a1)])
          refine own_iastore X4 hx hZ e4 V4_0 (i + 1) (own_inc hst (by omega)) (by first | omega | (simp; omega)) (hb hby d1_59) ?_
          intro T5 h5 X5 e5 W5 A5
          have V5_0 : own_Arr Z h5 a1 .int ((vs.set i (.int p5)).set (i + 1) (.int p7)) := A5
          have N5 := Fr.snoc X5 N4 g_a1
          have sz5 : n0 ≤ h5.size := Nat.le_trans sz4 (Keep.of_wr W5).1
          have K5 : Keep h0 h5 [a1] := K4.wr W5 (Or.inl (List.mem_cons_self ..))
          show own_Go p e below _ T5 (mkF m 60 #[.val (.ref a1), .val (.int p2), .val (.int p3), .val (.int p4), .val (.int p5), .val (.int p6), .val (.int p7), .val (.int (p2 + (1 : Int32)))] [])
          refine own_by (fun t_ k_ => XS.iinc X5.here hx rfl (hb hby d1_60) rfl (l' := #[.val (.ref a1), .val (.int p2), .val (.int p3), .val (.int p4), .val (.int p5), .val (.int p6), .val (.int p7), .val (.int ((p2 + (1 : Int32)) + (1 : Int32)))]) rfl k_) ?_
          show own_Go p e below _ T5 (mkF m 63 #[.val (.ref a1), .val (.int p2), .val (.int p3), .val (.int p4), .val (.int p5), .val (.int p6), .val (.int p7), .val (.int ((p2 + (1 : Int32)) + (1 : Int32)))] [])
          refine own_by (fun t_ k_ => XS.iload X5.here hx rfl (hb hby d1_63) rfl k_) ?_
          show own_Go p e below _ T5 (mkF m 65 #[.val (.ref a1), .val (.int p2), .val (.int p3), .val (.int p4), .val (.int p5), .val (.int p6), .val (.int p7), .val (.int ((p2 + (1 : Int32)) + (1 : Int32)))] [(.int ((p2 + (1 : Int32)) + (1 : Int32)))])
          refine own_retI X5 hx hlk Bd.returns (hb hby d1_65) e5 (by decide) (by decide) ?_
          have hV := V5_0
          refine ⟨_, rfl, ?_, N5, K5, ?_⟩
          · simp only [own_sel, hc6, hc20, hc35, hc51, if_true, if_false, List.nil_append, List.append_nil, List.cons_append]; exact Eq.trans (own_inc (own_inc hst (by omega)) (by omega)) (by simp <;> omega)
          · simp only [own_sel, hc6, hc20, hc35, hc51, if_true, if_false, List.nil_append, List.append_nil, List.cons_append]; exact hV
      · show own_Go p e below _ T4 (mkF m 38 #[.val (.ref a1), .val (.int p2), .val (.int p3), .val (.int p4), .val (.int p5), .val (.int p6), .val (.int p7), .val (.int (p2 + (1 : Int32)))] [])
        refine own_by (fun t_ k_ => XS.aloadN X4.here hx rfl (hb hby d1_38) rfl rfl k_) ?_
        show own_Go p e below _ T4 (mkF m 39 #[.val (.ref a1), .val (.int p2), .val (.int p3), .val (.int p4), .val (.int p5), .val (.int p6), .val (.int p7), .val (.int (p2 + (1 : Int32)))] [(.ref a1)])
        refine own_by (fun t_ k_ => XS.iload X4.here hx rfl (hb hby d1_39) rfl k_) ?_
        show own_Go p e below _ T4 (mkF m 41 #[.val (.ref a1), .val (.int p2), .val (.int p3), .val (.int p4), .val (.int p5), .val (.int p6), .val (.int p7), .val (.int (p2 + (1 : Int32)))] [(.int (p2 + (1 : Int32))), (.ref a1)])
        refine own_by (fun t_ k_ => XS.iload X4.here hx rfl (hb hby d1_41) rfl k_) ?_
        show own_Go p e below _ T4 (mkF m 43 #[.val (.ref a1), .val (.int p2), .val (.int p3), .val (.int p4), .val (.int p5), .val (.int p6), .val (.int p7), .val (.int (p2 + (1 : Int32)))] [(.int p6), (.int (p2 + (1 : Int32))), (.ref a1)])
        refine own_iastore X4 hx hZ e4 V4_0 (i + 1) (own_inc hst (by omega)) (by first | omega | (simp; omega)) (hb hby d1_43) ?_
        intro T6 h6 X6 e6 W6 A6
        have V6_0 : own_Arr Z h6 a1 .int ((vs.set i (.int p5)).set (i + 1) (.int p6)) := A6
        have N6 := Fr.snoc X6 N4 g_a1
        have sz6 : n0 ≤ h6.size := Nat.le_trans sz4 (Keep.of_wr W6).1
        have K6 : Keep h0 h6 [a1] := K4.wr W6 (Or.inl (List.mem_cons_self ..))
        show own_Go p e below _ T6 (mkF m 44 #[.val (.ref a1), .val (.int p2), .val (.int p3), .val (.int p4), .val (.int p5), .val (.int p6), .val (.int p7), .val (.int (p2 + (1 : Int32)))] [])
        refine own_by (fun t_ k_ => XS.iinc X6.here hx rfl (hb hby d1_44) rfl (l' := #[.val (.ref a1), .val (.int p2), .val (.int p3), .val (.int p4), .val (.int p5), .val (.int p6), .val (.int p7), .val (.int ((p2 + (1 : Int32)) + (1 : Int32)))]) rfl k_) ?_
        show own_Go p e below _ T6 (mkF m 47 #[.val (.ref a1), .val (.int p2), .val (.int p3), .val (.int p4), .val (.int p5), .val (.int p6), .val (.int p7), .val (.int ((p2 + (1 : Int32)) + (1 : Int32)))] [])
        refine own_by (fun t_ k_ => XS.iloadN X6.here hx rfl (hb hby d1_47) rfl k_) ?_
        show own_Go p e below _ T6 (mkF m 48 #[.val (.ref a1), .val (.int p2), .val (.int p3), .val (.int p4), .val (.int p5), .val (.int p6), .val (.int p7), .val (.int ((p2 + (1 : Int32)) + (1 : Int32)))] [(.int p3)])
        refine own_by (fun t_ k_ => XS.bipush X6.here hx rfl (hb hby d1_48) k_) ?_
        show own_Go p e below _ T6 (mkF m 50 #[.val (.ref a1), .val (.int p2), .val (.int p3), .val (.int p4), .val (.int p5), .val (.int p6), .val (.int p7), .val (.int ((p2 + (1 : Int32)) + (1 : Int32)))] [(.int (8 : Int32)), (.int p3)])
        refine own_by (fun t_ k_ => XS.iand X6.here hx rfl (hb hby d1_50) rfl k_) ?_
        show own_Go p e below _ T6 (mkF m 51 #[.val (.ref a1), .val (.int p2), .val (.int p3), .val (.int p4), .val (.int p5), .val (.int p6), .val (.int p7), .val (.int ((p2 + (1 : Int32)) + (1 : Int32)))] [(.int (p3 &&& (8 : Int32)))])
        refine own_if X6 hx 63 (hb hby d1_51) (by decide) (by decide) (fun (hc51 : (p3 &&& (8 : Int32)) = (0 : Int32)) => ?_) (fun (hc51 : ¬ (p3 &&& (8 : Int32)) = (0 : Int32)) => ?_)
        · show own_Go p e below _ T6 (mkF m 63 #[.val (.ref a1), .val (.int p2), .val (.int p3), .val (.int p4), .val (.int p5), .val (.int p6), .val (.int p7), .val (.int ((p2 + (1 : Int32)) + (1 : Int32)))] [])
          refine own_by (fun t_ k_ => XS.iload X6.here hx rfl (hb hby d1_63) rfl k_) ?_
          show own_Go p e below _ T6 (mkF m 65 #[.val (.ref a1), .val (.int p2), .val (.int p3), .val (.int p4), .val (.int p5), .val (.int p6), .val (.int p7), .val (.int ((p2 + (1 : Int32)) + (1 : Int32)))] [(.int ((p2 + (1 : Int32)) + (1 : Int32)))])
          refine own_retI X6 hx hlk Bd.returns (hb hby d1_65) e6 (by decide) (by decide) ?_
          have hV := V6_0
          refine ⟨_, rfl, ?_, N6, K6, ?_⟩
          · simp only [own_sel, hc6, hc20, hc35, hc51, if_true, if_false, List.nil_append, List.append_nil, List.cons_append]; exact Eq.trans (own_inc (own_inc hst (by omega)) (by omega)) (by simp <;> omega)
          · simp only [own_sel, hc6, hc20, hc35, hc51, if_true, if_false, List.nil_append, List.append_nil, List.cons_append]; exact hV
        · show own_Go p e below _ T6 (mkF m 54 #[.val (.ref a1), .val (.int p2), .val (.int p3), .val (.int p4), .val (.int p5), .val (.int p6), .val (.int p7), .val (.int ((p2 + (1 : Int32)) + (1 : Int32)))] [])
          refine own_by (fun t_ k_ => XS.aloadN X6.here hx rfl (hb hby d1_54) rfl rfl k_) ?_
          show own_Go p e below _ T6 (mkF m 55 #[.val (.ref a1), .val (.int p2), .val (.int p3), .val (.int p4), .val (.int p5), .val (.int p6), .val (.int p7), .val (.int ((p2 + (1 : Int32)) + (1 : Int32)))] [(.ref a1)])
          refine own_by (fun t_ k_ => XS.iload X6.here hx rfl (hb hby d1_55) rfl k_) ?_
          show own_Go p e below _ T6 (mkF m 57 #[.val (.ref a1), .val (.int p2), .val (.int p3), .val (.int p4), .val (.int p5), .val (.int p6), .val (.int p7), .val (.int ((p2 + (1 : Int32)) + (1 : Int32)))] [(.int ((p2 + (1 : Int32)) + (1 : Int32))), (.ref a1)])
          refine own_by (fun t_ k_ => XS.iload X6.here hx rfl (hb hby d1_57) rfl k_) ?_
          show own_Go p e below _ T6 (mkF m 59 #[.val (.ref a1), .val (.int p2), .val (.int p3), .val (.int p4), .val (.int p5), .val (.int p6), .val (.int p7), .val (.int ((p2 + (1 : Int32)) + (1 : Int32)))] [(.int p7), (.int ((p2 + (1 : Int32)) + (1 : Int32))), (.ref a1)])
          refine own_iastore X6 hx hZ e6 V6_0 (i + 2) (own_inc (own_inc hst (by omega)) (by omega)) (by first | omega | (simp; omega)) (hb hby d1_59) ?_
          intro T7 h7 X7 e7 W7 A7
          have V7_0 : own_Arr Z h7 a1 .int (((vs.set i (.int p5)).set (i + 1) (.int p6)).set (i + 2) (.int p7)) := A7
          have N7 := Fr.snoc X7 N6 g_a1
          have sz7 : n0 ≤ h7.size := Nat.le_trans sz6 (Keep.of_wr W7).1
          have K7 : Keep h0 h7 [a1] := K6.wr W7 (Or.inl (List.mem_cons_self ..))
          show own_Go p e below _ T7 (mkF m 60 #[.val (.ref a1), .val (.int p2), .val (.int p3), .val (.int p4), .val (.int p5), .val (.int p6), .val (.int p7), .val (.int ((p2 + (1 : Int32)) + (1 : Int32)))] [])
          refine own_by (fun t_ k_ => XS.iinc X7.here hx rfl (hb hby d1_60) rfl (l' := #[.val (.ref a1), .val (.int p2), .val (.int p3), .val (.int p4), .val (.int p5), .val (.int p6), .val (.int p7), .val (.int (((p2 + (1 : Int32)) + (1 : Int32)) + (1 : Int32)))]) rfl k_) ?_
          show own_Go p e below _ T7 (mkF m 63 #[.val (.ref a1), .val (.int p2), .val (.int p3), .val (.int p4), .val (.int p5), .val (.int p6), .val (.int p7), .val (.int (((p2 + (1 : Int32)) + (1 : Int32)) + (1 : Int32)))] [])
          refine own_by (fun t_ k_ => XS.iload X7.here hx rfl (hb hby d1_63) rfl k_) ?_
          show own_Go p e below _ T7 (mkF m 65 #[.val (.ref a1), .val (.int p2), .val (.int p3), .val (.int p4), .val (.int p5), .val (.int p6), .val (.int p7), .val (.int (((p2 + (1 : Int32)) + (1 : Int32)) + (1 : Int32)))] [(.int (((p2 + (1 : Int32)) + (1 : Int32)) + (1 : Int32)))])
          refine own_retI X7 hx hlk Bd.returns (hb hby d1_65) e7 (by decide) (by decide) ?_
          have hV := V7_0
          refine ⟨_, rfl, ?_, N7, K7, ?_⟩
          · simp only [own_sel, hc6, hc20, hc35, hc51, if_true, if_false, List.nil_append, List.append_nil, List.cons_append]; exact Eq.trans (own_inc (own_inc (own_inc hst (by omega)) (by omega)) (by omega)) (by simp <;> omega)
          · simp only [own_sel, hc6, hc20, hc35, hc51, if_true, if_false, List.nil_append, List.append_nil, List.cons_append]; exact hV
  · show own_Go p e below _ s₁ (mkF m 9 #[.val (.ref a1), .val (.int p2), .val (.int p3), .val (.int p4), .val (.int p5), .val (.int p6), .val (.int p7), .val (.int p2)] [])
    refine own_by (fun t_ k_ => XS.aloadN X0.here hx rfl (hb hby d1_9) rfl rfl k_) ?_
    show own_Go p e below _ s₁ (mkF m 10 #[.val (.ref a1), .val (.int p2), .val (.int p3), .val (.int p4), .val (.int p5), .val (.int p6), .val (.int p7), .val (.int p2)] [(.ref a1)])
    refine own_by (fun t_ k_ => XS.iload X0.here hx rfl (hb hby d1_10) rfl k_) ?_
    show own_Go p e below _ s₁ (mkF m 12 #[.val (.ref a1), .val (.int p2), .val (.int p3), .val (.int p4), .val (.int p5), .val (.int p6), .val (.int p7), .val (.int p2)] [(.int p2), (.ref a1)])
    refine own_by (fun t_ k_ => XS.iloadN X0.here hx rfl (hb hby d1_12) rfl k_) ?_
    show own_Go p e below _ s₁ (mkF m 13 #[.val (.ref a1), .val (.int p2), .val (.int p3), .val (.int p4), .val (.int p5), .val (.int p6), .val (.int p7), .val (.int p2)] [(.int p4), (.int p2), (.ref a1)])
    refine own_iastore X0 hx hZ e0 V_a1_0 i hst (by first | omega | (simp; omega)) (hb hby d1_13) ?_
    intro T8 h8 X8 e8 W8 A8
    have V8_0 : own_Arr Z h8 a1 .int (vs.set i (.int p4)) := A8
    have N8 := Fr.snoc X8 N0 g_a1
    have sz8 : n0 ≤ h8.size := Nat.le_trans Z0 (Keep.of_wr W8).1
    have K8 : Keep h0 h8 [a1] := K0.wr W8 (Or.inl (List.mem_cons_self ..))
    show own_Go p e below _ T8 (mkF m 14 #[.val (.ref a1), .val (.int p2), .val (.int p3), .val (.int p4), .val (.int p5), .val (.int p6), .val (.int p7), .val (.int p2)] [])
    refine own_by (fun t_ k_ => XS.iinc X8.here hx rfl (hb hby d1_14) rfl (l' := #[.val (.ref a1), .val (.int p2), .val (.int p3), .val (.int p4), .val (.int p5), .val (.int p6), .val (.int p7), .val (.int (p2 + (1 : Int32)))]) rfl k_) ?_
    show own_Go p e below _ T8 (mkF m 17 #[.val (.ref a1), .val (.int p2), .val (.int p3), .val (.int p4), .val (.int p5), .val (.int p6), .val (.int p7), .val (.int (p2 + (1 : Int32)))] [])
    refine own_by (fun t_ k_ => XS.iloadN X8.here hx rfl (hb hby d1_17) rfl k_) ?_
    show own_Go p e below _ T8 (mkF m 18 #[.val (.ref a1), .val (.int p2), .val (.int p3), .val (.int p4), .val (.int p5), .val (.int p6), .val (.int p7), .val (.int (p2 + (1 : Int32)))] [(.int p3)])
    refine own_by (fun t_ k_ => XS.iconst X8.here hx rfl (hb hby d1_18) k_) ?_
    show own_Go p e below _ T8 (mkF m 19 #[.val (.ref a1), .val (.int p2), .val (.int p3), .val (.int p4), .val (.int p5), .val (.int p6), .val (.int p7), .val (.int (p2 + (1 : Int32)))] [(.int (2 : Int32)), (.int p3)])
    refine own_by (fun t_ k_ => XS.iand X8.here hx rfl (hb hby d1_19) rfl k_) ?_
    show own_Go p e below _ T8 (mkF m 20 #[.val (.ref a1), .val (.int p2), .val (.int p3), .val (.int p4), .val (.int p5), .val (.int p6), .val (.int p7), .val (.int (p2 + (1 : Int32)))] [(.int (p3 &&& (2 : Int32)))])
    refine own_if X8 hx 32 (hb hby d1_20) (by decide) (by decide) (fun (hc20 : (p3 &&& (2 : Int32)) = (0 : Int32)) => ?_) (fun (hc20 : ¬ (p3 &&& (2 : Int32)) = (0 : Int32)) => ?_)
    · show own_Go p e below _ T8 (mkF m 32 #[.val (.ref a1), .val (.int p2), .val (.int p3), .val (.int p4), .val (.int p5), .val (.int p6), .val (.int p7), .val (.int (p2 + (1 : Int32)))] [])
      refine own_by (fun t_ k_ => XS.iloadN X8.here hx rfl (hb hby d1_32) rfl k_) ?_
      show own_Go p e below _ T8 (mkF m 33 #[.val (.ref a1), .val (.int p2), .val (.int p3), .val (.int p4), .val (.int p5), .val (.int p6), .val (.int p7), .val (.int (p2 + (1 : Int32)))] [(.int p3)])
      refine own_by (fun t_ k_ => XS.iconst X8.here hx rfl (hb hby d1_33) k_) ?_
      show own_Go p e below _ T8 (mkF m 34 #[.val (.ref a1), .val (.int p2), .val (.int p3), .val (.int p4), .val (.int p5), .val (.int p6), .val (.int p7), .val (.int (p2 + (1 : Int32)))] [(.int (4 : Int32)), (.int p3)])
      refine own_by (fun t_ k_ => XS.iand X8.here hx rfl (hb hby d1_34) rfl k_) ?_
      show own_Go p e below _ T8 (mkF m 35 #[.val (.ref a1), .val (.int p2), .val (.int p3), .val (.int p4), .val (.int p5), .val (.int p6), .val (.int p7), .val (.int (p2 + (1 : Int32)))] [(.int (p3 &&& (4 : Int32)))])
      refine own_if X8 hx 47 (hb hby d1_35) (by decide) (by decide) (fun (hc35 : (p3 &&& (4 : Int32)) = (0 : Int32)) => ?_) (fun (hc35 : ¬ (p3 &&& (4 : Int32)) = (0 : Int32)) => ?_)
      · show own_Go p e below _ T8 (mkF m 47 #[.val (.ref a1), .val (.int p2), .val (.int p3), .val (.int p4), .val (.int p5), .val (.int p6), .val (.int p7), .val (.int (p2 + (1 : Int32)))] [])
        refine own_by (fun t_ k_ => XS.iloadN X8.here hx rfl (hb hby d1_47) rfl k_) ?_
        show own_Go p e below _ T8 (mkF m 48 #[.val (.ref a1), .val (.int p2), .val (.int p3), .val (.int p4), .val (.int p5), .val (.int p6), .val (.int p7), .val (.int (p2 + (1 : Int32)))] [(.int p3)])
        refine own_by (fun t_ k_ => XS.bipush X8.here hx rfl (hb hby d1_48) k_) ?_
        show own_Go p e below _ T8 (mkF m 50 #[.val (.ref a1), .val (.int p2), .val (.int p3), .val (.int p4), .val (.int p5), .val (.int p6), .val (.int p7), .val (.int (p2 + (1 : Int32)))] [(.int (8 : Int32)), (.int p3)])
        refine own_by (fun t_ k_ => XS.iand X8.here hx rfl (hb hby d1_50) rfl k_) ?_
        show own_Go p e below _ T8 (mkF m 51 #[.val (.ref a1), .val (.int p2), .val (.int p3), .val (.int p4), .val (.int p5), .val (.int p6), .val (.int p7), .val (.int (p2 + (1 : Int32)))] [(.int (p3 &&& (8 : Int32)))])
        refine own_if X8 hx 63 (hb hby d1_51) (by decide) (by decide) (fun (hc51 : (p3 &&& (8 : Int32)) = (0 : Int32)) => ?_) (fun (hc51 : ¬ (p3 &&& (8 : Int32)) = (0 : Int32)) => ?_)
        · show own_Go p e below _ T8 (mkF m 63 #[.val (.ref a1), .val (.int p2), .val (.int p3), .val (.int p4), .val (.int p5), .val (.int p6), .val (.int p7), .val (.int (p2 + (1 : Int32)))] [])
          refine own_by (fun t_ k_ => XS.iload X8.here hx rfl (hb hby d1_63) rfl k_) ?_
          show own_Go p e below _ T8 (mkF m 65 #[.val (.ref a1), .val (.int p2), .val (.int p3), .val (.int p4), .val (.int p5), .val (.int p6), .val (.int p7), .val (.int (p2 + (1 : Int32)))] [(.int (p2 + (1 : Int32)))])
          refine own_retI X8 hx hlk Bd.returns (hb hby d1_65) e8 (by decide) (by decide) ?_
          have hV := V8_0
          refine ⟨_, rfl, ?_, N8, K8, ?_⟩
          · simp only [own_sel, hc6, hc20, hc35, hc51, if_true, if_false, List.nil_append, List.append_nil, List.cons_append]; exact Eq.trans (own_inc hst (by omega)) (by simp <;> omega)
          · simp only [own_sel, hc6, hc20, hc35, hc51, if_true, if_false, List.nil_append, List.append_nil, List.cons_append]; exact hV
        · show own_Go p e below _ T8 (mkF m 54 #[.val (.ref a1), .val (.int p2), .val (.int p3), .val (.int p4), .val (.int p5), .val (.int p6), .val (.int p7), .val (.int (p2 + (1 : Int32)))] [])
          refine own_by (fun t_ k_ => XS.aloadN X8.here hx rfl (hb hby d1_54) rfl rfl k_) ?_
          show own_Go p e below _ T8 (mkF m 55 #[.val (.ref a1), .val (.int p2), .val (.int p3), .val (.int p4), .val (.int p5), .val (.int p6), .val (.int p7), .val (.int (p2 + (1 : Int32)))] [(.ref a1)])
          refine own_by (fun t_ k_ => XS.iload X8.here hx rfl (hb hby d1_55) rfl k_) ?_
          show own_Go p e below _ T8 (mkF m 57 #[.val (.ref a1), .val (.int p2), .val (.int p3), .val (.int p4), .val (.int p5), .val (.int p6), .val (.int p7), .val (.int (p2 + (1 : Int32)))] [(.int (p2 + (1 : Int32))), (.ref a1)])
          refine own_by (fun t_ k_ => XS.iload X8.here hx rfl (hb hby d1_57) rfl k_) ?_
          show own_Go p e below _ T8 (mkF m 59 #[.val (.ref a1), .val (.int p2), .val (.int p3), .val (.int p4), .val (.int p5), .val (.int p6), .val (.int p7), .val (.int (p2 + (1 : Int32)))] [(.int p7), (.int (p2 + (1 : Int32))), (.ref a1)])
          refine own_iastore X8 hx hZ e8 V8_0 (i + 1) (own_inc hst (by omega)) (by first | omega | (simp; omega)) (hb hby d1_59) ?_
          intro T9 h9 X9 e9 W9 A9
          have V9_0 : own_Arr Z h9 a1 .int ((vs.set i (.int p4)).set (i + 1) (.int p7)) := A9
          have N9 := Fr.snoc X9 N8 g_a1
          have sz9 : n0 ≤ h9.size := Nat.le_trans sz8 (Keep.of_wr W9).1
          have K9 : Keep h0 h9 [a1] := K8.wr W9 (Or.inl (List.mem_cons_self ..))
          show own_Go p e below _ T9 (mkF m 60 #[.val (.ref a1), .val (.int p2), .val (.int p3), .val (.int p4), .val (.int p5), .val (.int p6), .val (.int p7), .val (.int (p2 + (1 : Int32)))] [])
          refine own_by (fun t_ k_ => XS.iinc X9.here hx rfl (hb hby d1_60) rfl (l' := #[.val (.ref a1), .val (.int p2), .val (.int p3), .val (.int p4), .val (.int p5), .val (.int p6), .val (.int p7), .val (.int ((p2 + (1 : Int32)) + (1 : Int32)))]) rfl k_) ?_
          show own_Go p e below _ T9 (mkF m 63 #[.val (.ref a1), .val (.int p2), .val (.int p3), .val (.int p4), .val (.int p5), .val (.int p6), .val (.int p7), .val (.int ((p2 + (1 : Int32)) + (1 : Int32)))] [])
          refine own_by (fun t_ k_ => XS.iload X9.here hx rfl (hb hby d1_63) rfl k_) ?_
          show own_Go p e below _ T9 (mkF m 65 #[.val (.ref a1), .val (.int p2), .val (.int p3), .val (.int p4), .val (.int p5), .val (.int p6), .val (.int p7), .val (.int ((p2 + (1 : Int32)) + (1 : Int32)))] [(.int ((p2 + (1 : Int32)) + (1 : Int32)))])
          refine own_retI X9 hx hlk Bd.returns (hb hby d1_65) e9 (by decide) (by decide) ?_
          have hV := V9_0
          refine ⟨_, rfl, ?_, N9, K9, ?_⟩
          · simp only [own_sel, hc6, hc20, hc35, hc51, if_true, if_false, List.nil_append, List.append_nil, List.cons_append]; exact Eq.trans (own_inc (own_inc hst (by omega)) (by omega)) (by simp <;> omega)
          · simp only [own_sel, hc6, hc20, hc35, hc51, if_true, if_false, List.nil_append, List.append_nil, List.cons_append]; exact hV
      · show own_Go p e below _ T8 (mkF m 38 #[.val (.ref a1), .val (.int p2), .val (.int p3), .val (.int p4), .val (.int p5), .val (.int p6), .val (.int p7), .val (.int (p2 + (1 : Int32)))] [])
        refine own_by (fun t_ k_ => XS.aloadN X8.here hx rfl (hb hby d1_38) rfl rfl k_) ?_
        show own_Go p e below _ T8 (mkF m 39 #[.val (.ref a1), .val (.int p2), .val (.int p3), .val (.int p4), .val (.int p5), .val (.int p6), .val (.int p7), .val (.int (p2 + (1 : Int32)))] [(.ref a1)])
        refine own_by (fun t_ k_ => XS.iload X8.here hx rfl (hb hby d1_39) rfl k_) ?_
        show own_Go p e below _ T8 (mkF m 41 #[.val (.ref a1), .val (.int p2), .val (.int p3), .val (.int p4), .val (.int p5), .val (.int p6), .val (.int p7), .val (.int (p2 + (1 : Int32)))] [(.int (p2 + (1 : Int32))), (.ref a1)])
        refine own_by (fun t_ k_ => XS.iload X8.here hx rfl (hb hby d1_41) rfl k_) ?_
        show own_Go p e below _ T8 (mkF m 43 #[.val (.ref a1), .val (.int p2), .val (.int p3), .val (.int p4), .val (.int p5), .val (.int p6), .val (.int p7), .val (.int (p2 + (1 : Int32)))] [(.int p6), (.int (p2 + (1 : Int32))), (.ref a1)])
        refine own_iastore X8 hx hZ e8 V8_0 (i + 1) (own_inc hst (by omega)) (by first | omega | (simp; omega)) (hb hby d1_43) ?_
        intro T10 h10 X10 e10 W10 A10
        have V10_0 : own_Arr Z h10 a1 .int ((vs.set i (.int p4)).set (i + 1) (.int p6)) := A10
        have N10 := Fr.snoc X10 N8 g_a1
        have sz10 : n0 ≤ h10.size := Nat.le_trans sz8 (Keep.of_wr W10).1
        have K10 : Keep h0 h10 [a1] := K8.wr W10 (Or.inl (List.mem_cons_self ..))
        show own_Go p e below _ T10 (mkF m 44 #[.val (.ref a1), .val (.int p2), .val (.int p3), .val (.int p4), .val (.int p5), .val (.int p6), .val (.int p7), .val (.int (p2 + (1 : Int32)))] [])
        refine own_by (fun t_ k_ => XS.iinc X10.here hx rfl (hb hby d1_44) rfl (l' := #[.val (.ref a1), .val (.int p2), .val (.int p3), .val (.int p4), .val (.int p5), .val (.int p6), .val (.int p7), .val (.int ((p2 + (1 : Int32)) + (1 : Int32)))]) rfl k_) ?_
        show own_Go p e below _ T10 (mkF m 47 #[.val (.ref a1), .val (.int p2), .val (.int p3), .val (.int p4), .val (.int p5), .val (.int p6), .val (.int p7), .val (.int ((p2 + (1 : Int32)) + (1 : Int32)))] [])
        refine own_by (fun t_ k_ => XS.iloadN X10.here hx rfl (hb hby d1_47) rfl k_) ?_
        show own_Go p e below _ T10 (mkF m 48 #[.val (.ref a1), .val (.int p2), .val (.int p3), .val (.int p4), .val (.int p5), .val (.int p6), .val (.int p7), .val (.int ((p2 + (1 : Int32)) + (1 : Int32)))] [(.int p3)])
        refine own_by (fun t_ k_ => XS.bipush X10.here hx rfl (hb hby d1_48) k_) ?_
        show own_Go p e below _ T10 (mkF m 50 #[.val (.ref a1), .val (.int p2), .val (.int p3), .val (.int p4), .val (.int p5), .val (.int p6), .val (.int p7), .val (.int ((p2 + (1 : Int32)) + (1 : Int32)))] [(.int (8 : Int32)), (.int p3)])
        refine own_by (fun t_ k_ => XS.iand X10.here hx rfl (hb hby d1_50) rfl k_) ?_
        show own_Go p e below _ T10 (mkF m 51 #[.val (.ref a1), .val (.int p2), .val (.int p3), .val (.int p4), .val (.int p5), .val (.int p6), .val (.int p7), .val (.int ((p2 + (1 : Int32)) + (1 : Int32)))] [(.int (p3 &&& (8 : Int32)))])
        refine own_if X10 hx 63 (hb hby d1_51) (by decide) (by decide) (fun (hc51 : (p3 &&& (8 : Int32)) = (0 : Int32)) => ?_) (fun (hc51 : ¬ (p3 &&& (8 : Int32)) = (0 : Int32)) => ?_)
        · show own_Go p e below _ T10 (mkF m 63 #[.val (.ref a1), .val (.int p2), .val (.int p3), .val (.int p4), .val (.int p5), .val (.int p6), .val (.int p7), .val (.int ((p2 + (1 : Int32)) + (1 : Int32)))] [])
          refine own_by (fun t_ k_ => XS.iload X10.here hx rfl (hb hby d1_63) rfl k_) ?_
          show own_Go p e below _ T10 (mkF m 65 #[.val (.ref a1), .val (.int p2), .val (.int p3), .val (.int p4), .val (.int p5), .val (.int p6), .val (.int p7), .val (.int ((p2 + (1 : Int32)) + (1 : Int32)))] [(.int ((p2 + (1 : Int32)) + (1 : Int32)))])
          refine own_retI X10 hx hlk Bd.returns (hb hby d1_65) e10 (by decide) (by decide) ?_
          have hV := V10_0
          refine ⟨_, rfl, ?_, N10, K10, ?_⟩
          · simp only [own_sel, hc6, hc20, hc35, hc51, if_true, if_false, List.nil_append, List.append_nil, List.cons_append]; exact Eq.trans (own_inc (own_inc hst (by omega)) (by omega)) (by simp <;> omega)
          · simp only [own_sel, hc6, hc20, hc35, hc51, if_true, if_false, List.nil_append, List.append_nil, List.cons_append]; exact hV
        · show own_Go p e below _ T10 (mkF m 54 #[.val (.ref a1), .val (.int p2), .val (.int p3), .val (.int p4), .val (.int p5), .val (.int p6), .val (.int p7), .val (.int ((p2 + (1 : Int32)) + (1 : Int32)))] [])
          refine own_by (fun t_ k_ => XS.aloadN X10.here hx rfl (hb hby d1_54) rfl rfl k_) ?_
          show own_Go p e below _ T10 (mkF m 55 #[.val (.ref a1), .val (.int p2), .val (.int p3), .val (.int p4), .val (.int p5), .val (.int p6), .val (.int p7), .val (.int ((p2 + (1 : Int32)) + (1 : Int32)))] [(.ref a1)])
          refine own_by (fun t_ k_ => XS.iload X10.here hx rfl (hb hby d1_55) rfl k_) ?_
          show own_Go p e below _ T10 (mkF m 57 #[.val (.ref a1), .val (.int p2), .val (.int p3), .val (.int p4), .val (.int p5), .val (.int p6), .val (.int p7), .val (.int ((p2 + (1 : Int32)) + (1 : Int32)))] [(.int ((p2 + (1 : Int32)) + (1 : Int32))), (.ref a1)])
          refine own_by (fun t_ k_ => XS.iload X10.here hx rfl (hb hby d1_57) rfl k_) ?_
          show own_Go p e below _ T10 (mkF m 59 #[.val (.ref a1), .val (.int p2), .val (.int p3), .val (.int p4), .val (.int p5), .val (.int p6), .val (.int p7), .val (.int ((p2 + (1 : Int32)) + (1 : Int32)))] [(.int p7), (.int ((p2 + (1 : Int32)) + (1 : Int32))), (.ref a1)])
          refine own_iastore X10 hx hZ e10 V10_0 (i + 2) (own_inc (own_inc hst (by omega)) (by omega)) (by first | omega | (simp; omega)) (hb hby d1_59) ?_
          intro T11 h11 X11 e11 W11 A11
          have V11_0 : own_Arr Z h11 a1 .int (((vs.set i (.int p4)).set (i + 1) (.int p6)).set (i + 2) (.int p7)) := A11
          have N11 := Fr.snoc X11 N10 g_a1
          have sz11 : n0 ≤ h11.size := Nat.le_trans sz10 (Keep.of_wr W11).1
          have K11 : Keep h0 h11 [a1] := K10.wr W11 (Or.inl (List.mem_cons_self ..))
          show own_Go p e below _ T11 (mkF m 60 #[.val (.ref a1), .val (.int p2), .val (.int p3), .val (.int p4), .val (.int p5), .val (.int p6), .val (.int p7), .val (.int ((p2 + (1 : Int32)) + (1 : Int32)))] [])
          refine own_by (fun t_ k_ => XS.iinc X11.here hx rfl (hb hby d1_60) rfl (l' := #[.val (.ref a1), .val (.int p2), .val (.int p3), .val (.int p4), .val (.int p5), .val (.int p6), .val (.int p7), .val (.int (((p2 + (1 : Int32)) + (1 : Int32)) + (1 : Int32)))]) rfl k_) ?_
          show own_Go p e below _ T11 (mkF m 63 #[.val (.ref a1), .val (.int p2), .val (.int p3), .val (.int p4), .val (.int p5), .val (.int p6), .val (.int p7), .val (.int (((p2 + (1 : Int32)) + (1 : Int32)) + (1 : Int32)))] [])
          refine own_by (fun t_ k_ => XS.iload X11.here hx rfl (hb hby d1_63) rfl k_) ?_
          show own_Go p e below _ T11 (mkF m 65 #[.val (.ref a1), .val (.int p2), .val (.int p3), .val (.int p4), .val (.int p5), .val (.int p6), .val (.int p7), .val (.int (((p2 + (1 : Int32)) + (1 : Int32)) + (1 : Int32)))] [(.int (((p2 + (1 : Int32)) + (1 : Int32)) + (1 : Int32)))])
          refine own_retI X11 hx hlk Bd.returns (hb hby d1_65) e11 (by decide) (by decide) ?_
          have hV := V11_0
          refine ⟨_, rfl, ?_, N11, K11, ?_⟩
          · simp only [own_sel, hc6, hc20, hc35, hc51, if_true, if_false, List.nil_append, List.append_nil, List.cons_append]; exact Eq.trans (own_inc (own_inc (own_inc hst (by omega)) (by omega)) (by omega)) (by simp <;> omega)
          · simp only [own_sel, hc6, hc20, hc35, hc51, if_true, if_false, List.nil_append, List.append_nil, List.cons_append]; exact hV
    · show own_Go p e below _ T8 (mkF m 23 #[.val (.ref a1), .val (.int p2), .val (.int p3), .val (.int p4), .val (.int p5), .val (.int p6), .val (.int p7), .val (.int (p2 + (1 : Int32)))] [])
      refine own_by (fun t_ k_ => XS.aloadN X8.here hx rfl (hb hby d1_23) rfl rfl k_) ?_
      show own_Go p e below _ T8 (mkF m 24 #[.val (.ref a1), .val (.int p2), .val (.int p3), .val (.int p4), .val (.int p5), .val (.int p6), .val (.int p7), .val (.int (p2 + (1 : Int32)))] [(.ref a1)])
      refine own_by (fun t_ k_ => XS.iload X8.here hx rfl (hb hby d1_24) rfl k_) ?_
      show own_Go p e below _ T8 (mkF m 26 #[.val (.ref a1), .val (.int p2), .val (.int p3), .val (.int p4), .val (.int p5), .val (.int p6), .val (.int p7), .val (.int (p2 + (1 : Int32)))] [(.int (p2 + (1 : Int32))), (.ref a1)])
      refine own_by (fun t_ k_ => XS.iload X8.here hx rfl (hb hby d1_26) rfl k_) ?_
      show own_Go p e below _ T8 (mkF m 28 #[.val (.ref a1), .val (.int p2), .val (.int p3), .val (.int p4), .val (.int p5), .val (.int p6), .val (.int p7), .val (.int (p2 + (1 : Int32)))] [(.int p5), (.int (p2 + (1 : Int32))), (.ref a1)])
      refine own_iastore X8 hx hZ e8 V8_0 (i + 1) (own_inc hst (by omega)) (by first | omega | (simp; omega)) (hb hby d1_28) ?_
      intro T12 h12 X12 e12 W12 A12
      have V12_0 : own_Arr Z h12 a1 .int ((vs.set i (.int p4)).set (i + 1) (.int p5)) := A12
      have N12 := Fr.snoc X12 N8 g_a1
      have sz12 : n0 ≤ h12.size := Nat.le_trans sz8 (Keep.of_wr W12).1
      have K12 : Keep h0 h12 [a1] := K8.wr W12 (Or.inl (List.mem_cons_self ..))
      show own_Go p e below _ T12 (mkF m 29 #[.val (.ref a1), .val (.int p2), .val (.int p3), .val (.int p4), .val (.int p5), .val (.int p6), .val (.int p7), .val (.int (p2 + (1 : Int32)))] [])
      refine own_by (fun t_ k_ => XS.iinc X12.here hx rfl (hb hby d1_29) rfl (l' := #[.val (.ref a1), .val (.int p2), .val (.int p3), .val (.int p4), .val (.int p5), .val (.int p6), .val (.int p7), .val (.int ((p2 + (1 : Int32)) + (1 : Int32)))]) rfl k_) ?_
      show own_Go p e below _ T12 (mkF m 32 #[.val (.ref a1), .val (.int p2), .val (.int p3), .val (.int p4), .val (.int p5), .val (.int p6), .val (.int p7), .val (.int ((p2 + (1 : Int32)) + (1 : Int32)))] [])
      refine own_by (fun t_ k_ => XS.iloadN X12.here hx rfl (hb hby d1_32) rfl k_) ?_
      show own_Go p e below _ T12 (mkF m 33 #[.val (.ref a1), .val (.int p2), .val (.int p3), .val (.int p4), .val (.int p5), .val (.int p6), .val (.int p7), .val (.int ((p2 + (1 : Int32)) + (1 : Int32)))] [(.int p3)])
      refine own_by (fun t_ k_ => XS.iconst X12.here hx rfl (hb hby d1_33) k_) ?_
      show own_Go p e below _ T12 (mkF m 34 #[.val (.ref a1), .val (.int p2), .val (.int p3), .val (.int p4), .val (.int p5), .val (.int p6), .val (.int p7), .val (.int ((p2 + (1 : Int32)) + (1 : Int32)))] [(.int (4 : Int32)), (.int p3)])
      refine own_by (fun t_ k_ => XS.iand X12.here hx rfl (hb hby d1_34) rfl k_) ?_
      show own_Go p e below _ T12 (mkF m 35 #[.val (.ref a1), .val (.int p2), .val (.int p3), .val (.int p4), .val (.int p5), .val (.int p6), .val (.int p7), .val (.int ((p2 + (1 : Int32)) + (1 : Int32)))] [(.int (p3 &&& (4 : Int32)))])
      refine own_if X12 hx 47 (hb hby d1_35) (by decide) (by decide) (fun (hc35 : (p3 &&& (4 : Int32)) = (0 : Int32)) => ?_) (fun (hc35 : ¬ (p3 &&& (4 : Int32)) = (0 : Int32)) => ?_)
      · show own_Go p e below _ T12 (mkF m 47 #[.val (.ref a1), .val (.int p2), .val (.int p3), .val (.int p4), .val (.int p5), .val (.int p6), .val (.int p7), .val (.int ((p2 + (1 : Int32)) + (1 : Int32)))] [])
        refine own_by (fun t_ k_ => XS.iloadN X12.here hx rfl (hb hby d1_47) rfl k_) ?_
        show own_Go p e below _ T12 (mkF m 48 #[.val (.ref a1), .val (.int p2), .val (.int p3), .val (.int p4), .val (.int p5), .val (.int p6), .val (.int p7), .val (.int ((p2 + (1 : Int32)) + (1 : Int32)))] [(.int p3)])
        refine own_by (fun t_ k_ => XS.bipush X12.here hx rfl (hb hby d1_48) k_) ?_
        show own_Go p e below _ T12 (mkF m 50 #[.val (.ref a1), .val (.int p2), .val (.int p3), .val (.int p4), .val (.int p5), .val (.int p6), .val (.int p7), .val (.int ((p2 + (1 : Int32)) + (1 : Int32)))] [(.int (8 : Int32)), (.int p3)])
        refine own_by (fun t_ k_ => XS.iand X12.here hx rfl (hb hby d1_50) rfl k_) ?_
        show own_Go p e below _ T12 (mkF m 51 #[.val (.ref a1), .val (.int p2), .val (.int p3), .val (.int p4), .val (.int p5), .val (.int p6), .val (.int p7), .val (.int ((p2 + (1 : Int32)) + (1 : Int32)))] [(.int (p3 &&& (8 : Int32)))])
        refine own_if X12 hx 63 (hb hby d1_51) (by decide) (by decide) (fun (hc51 : (p3 &&& (8 : Int32)) = (0 : Int32)) => ?_) (fun (hc51 : ¬ (p3 &&& (8 : Int32)) = (0 : Int32)) => ?_)
        · show own_Go p e below _ T12 (mkF m 63 #[.val (.ref a1), .val (.int p2), .val (.int p3), .val (.int p4), .val (.int p5), .val (.int p6), .val (.int p7), .val (.int ((p2 + (1 : Int32)) + (1 : Int32)))] [])
          refine own_by (fun t_ k_ => XS.iload X12.here hx rfl (hb hby d1_63) rfl k_) ?_
          show own_Go p e below _ T12 (mkF m 65 #[.val (.ref a1), .val (.int p2), .val (.int p3), .val (.int p4), .val (.int p5), .val (.int p6), .val (.int p7), .val (.int ((p2 + (1 : Int32)) + (1 : Int32)))] [(.int ((p2 + (1 : Int32)) + (1 : Int32)))])
          refine own_retI X12 hx hlk Bd.returns (hb hby d1_65) e12 (by decide) (by decide) ?_
          have hV := V12_0
          refine ⟨_, rfl, ?_, N12, K12, ?_⟩
          · simp only [own_sel, hc6, hc20, hc35, hc51, if_true, if_false, List.nil_append, List.append_nil, List.cons_append]; exact Eq.trans (own_inc (own_inc hst (by omega)) (by omega)) (by simp <;> omega)
          · simp only [own_sel, hc6, hc20, hc35, hc51, if_true, if_false, List.nil_append, List.append_nil, List.cons_append]; exact hV
        · show own_Go p e below _ T12 (mkF m 54 #[.val (.ref a1), .val (.int p2), .val (.int p3), .val (.int p4), .val (.int p5), .val (.int p6), .val (.int p7), .val (.int ((p2 + (1 : Int32)) + (1 : Int32)))] [])
          refine own_by (fun t_ k_ => XS.aloadN X12.here hx rfl (hb hby d1_54) rfl rfl k_) ?_
          show own_Go p e below _ T12 (mkF m 55 #[.val (.ref a1), .val (.int p2), .val (.int p3), .val (.int p4), .val (.int p5), .val (.int p6), .val (.int p7), .val (.int ((p2 + (1 : Int32)) + (1 : Int32)))] [(.ref a1)])
          refine own_by (fun t_ k_ => XS.iload X12.here hx rfl (hb hby d1_55) rfl k_) ?_
          show own_Go p e below _ T12 (mkF m 57 #[.val (.ref a1), .val (.int p2), .val (.int p3), .val (.int p4), .val (.int p5), .val (.int p6), .val (.int p7), .val (.int ((p2 + (1 : Int32)) + (1 : Int32)))] [(.int ((p2 + (1 : Int32)) + (1 : Int32))), (.ref a1)])
          refine own_by (fun t_ k_ => XS.iload X12.here hx rfl (hb hby d1_57) rfl k_) ?_
          show own_Go p e below _ T12 (mkF m 59 #[.val (.ref a1), .val (.int p2), .val (.int p3), .val (.int p4), .val (.int p5), .val (.int p6), .val (.int p7), .val (.int ((p2 + (1 : Int32)) + (1 : Int32)))] [(.int p7), (.int ((p2 + (1 : Int32)) + (1 : Int32))), (.ref a1)])
          refine own_iastore X12 hx hZ e12 V12_0 (i + 2) (own_inc (own_inc hst (by omega)) (by omega)) (by first | omega | (simp; omega)) (hb hby d1_59) ?_
          intro T13 h13 X13 e13 W13 A13
          have V13_0 : own_Arr Z h13 a1 .int (((vs.set i (.int p4)).set (i + 1) (.int p5)).set (i + 2) (.int p7)) := A13
          have N13 := Fr.snoc X13 N12 g_a1
          have sz13 : n0 ≤ h13.size := Nat.le_trans sz12 (Keep.of_wr W13).1
          have K13 : Keep h0 h13 [a1] := K12.wr W13 (Or.inl (List.mem_cons_self ..))
          show own_Go p e below _ T13 (mkF m 60 #[.val (.ref a1), .val (.int p2), .val (.int p3), .val (.int p4), .val (.int p5), .val (.int p6), .val (.int p7), .val (.int ((p2 + (1 : Int32)) + (1 : Int32)))] [])
          refine own_by (fun t_ k_ => XS.iinc X13.here hx rfl (hb hby d1_60) rfl (l' := #[.val (.ref a1), .val (.int p2), .val (.int p3), .val (.int p4), .val (.int p5), .val (.int p6), .val (.int p7), .val (.int (((p2 + (1 : Int32)) + (1 : Int32)) + (1 : Int32)))]) rfl k_) ?_
          show own_Go p e below _ T13 (mkF m 63 #[.val (.ref a1), .val (.int p2), .val (.int p3), .val (.int p4), .val (.int p5), .val (.int p6), .val (.int p7), .val (.int (((p2 + (1 : Int32)) + (1 : Int32)) + (1 : Int32)))] [])
          refine own_by (fun t_ k_ => XS.iload X13.here hx rfl (hb hby d1_63) rfl k_) ?_
          show own_Go p e below _ T13 (mkF m 65 #[.val (.ref a1), .val (.int p2), .val (.int p3), .val (.int p4), .val (.int p5), .val (.int p6), .val (.int p7), .val (.int (((p2 + (1 : Int32)) + (1 : Int32)) + (1 : Int32)))] [(.int (((p2 + (1 : Int32)) + (1 : Int32)) + (1 : Int32)))])
          refine own_retI X13 hx hlk Bd.returns (hb hby d1_65) e13 (by decide) (by decide) ?_
          have hV := V13_0
          refine ⟨_, rfl, ?_, N13, K13, ?_⟩
          · simp only [own_sel, hc6, hc20, hc35, hc51, if_true, if_false, List.nil_append, List.append_nil, List.cons_append]; exact Eq.trans (own_inc (own_inc (own_inc hst (by omega)) (by omega)) (by omega)) (by simp <;> omega)
          · simp only [own_sel, hc6, hc20, hc35, hc51, if_true, if_false, List.nil_append, List.append_nil, List.cons_append]; exact hV
      · show own_Go p e below _ T12 (mkF m 38 #[.val (.ref a1), .val (.int p2), .val (.int p3), .val (.int p4), .val (.int p5), .val (.int p6), .val (.int p7), .val (.int ((p2 + (1 : Int32)) + (1 : Int32)))] [])
        refine own_by (fun t_ k_ => XS.aloadN X12.here hx rfl (hb hby d1_38) rfl rfl k_) ?_
        show own_Go p e below _ T12 (mkF m 39 #[.val (.ref a1), .val (.int p2), .val (.int p3), .val (.int p4), .val (.int p5), .val (.int p6), .val (.int p7), .val (.int ((p2 + (1 : Int32)) + (1 : Int32)))] [(.ref a1)])
        refine own_by (fun t_ k_ => XS.iload X12.here hx rfl (hb hby d1_39) rfl k_) ?_
        show own_Go p e below _ T12 (mkF m 41 #[.val (.ref a1), .val (.int p2), .val (.int p3), .val (.int p4), .val (.int p5), .val (.int p6), .val (.int p7), .val (.int ((p2 + (1 : Int32)) + (1 : Int32)))] [(.int ((p2 + (1 : Int32)) + (1 : Int32))), (.ref a1)])
        refine own_by (fun t_ k_ => XS.iload X12.here hx rfl (hb hby d1_41) rfl k_) ?_
        show own_Go p e below _ T12 (mkF m 43 #[.val (.ref a1), .val (.int p2), .val (.int p3), .val (.int p4), .val (.int p5), .val (.int p6), .val (.int p7), .val (.int ((p2 + (1 : Int32)) + (1 : Int32)))] [(.int p6), (.int ((p2 + (1 : Int32)) + (1 : Int32))), (.ref a1)])
        refine own_iastore X12 hx hZ e12 V12_0 (i + 2) (own_inc (own_inc hst (by omega)) (by omega)) (by first | omega | (simp; omega)) (hb hby d1_43) ?_
        intro T14 h14 X14 e14 W14 A14
        have V14_0 : own_Arr Z h14 a1 .int (((vs.set i (.int p4)).set (i + 1) (.int p5)).set (i + 2) (.int p6)) := A14
        have N14 := Fr.snoc X14 N12 g_a1
        have sz14 : n0 ≤ h14.size := Nat.le_trans sz12 (Keep.of_wr W14).1
        have K14 : Keep h0 h14 [a1] := K12.wr W14 (Or.inl (List.mem_cons_self ..))
        show own_Go p e below _ T14 (mkF m 44 #[.val (.ref a1), .val (.int p2), .val (.int p3), .val (.int p4), .val (.int p5), .val (.int p6), .val (.int p7), .val (.int ((p2 + (1 : Int32)) + (1 : Int32)))] [])
        refine own_by (fun t_ k_ => XS.iinc X14.here hx rfl (hb hby d1_44) rfl (l' := #[.val (.ref a1), .val (.int p2), .val (.int p3), .val (.int p4), .val (.int p5), .val (.int p6), .val (.int p7), .val (.int (((p2 + (1 : Int32)) + (1 : Int32)) + (1 : Int32)))]) rfl k_) ?_
        show own_Go p e below _ T14 (mkF m 47 #[.val (.ref a1), .val (.int p2), .val (.int p3), .val (.int p4), .val (.int p5), .val (.int p6), .val (.int p7), .val (.int (((p2 + (1 : Int32)) + (1 : Int32)) + (1 : Int32)))] [])
        refine own_by (fun t_ k_ => XS.iloadN X14.here hx rfl (hb hby d1_47) rfl k_) ?_
        show own_Go p e below _ T14 (mkF m 48 #[.val (.ref a1), .val (.int p2), .val (.int p3), .val (.int p4), .val (.int p5), .val (.int p6), .val (.int p7), .val (.int (((p2 + (1 : Int32)) + (1 : Int32)) + (1 : Int32)))] [(.int p3)])
        refine own_by (fun t_ k_ => XS.bipush X14.here hx rfl (hb hby d1_48) k_) ?_
        show own_Go p e below _ T14 (mkF m 50 #[.val (.ref a1), .val (.int p2), .val (.int p3), .val (.int p4), .val (.int p5), .val (.int p6), .val (.int p7), .val (.int (((p2 + (1 : Int32)) + (1 : Int32)) + (1 : Int32)))] [(.int (8 : Int32)), (.int p3)])
        refine own_by (fun t_ k_ => XS.iand X14.here hx rfl (hb hby d1_50) rfl k_) ?_
        show own_Go p e below _ T14 (mkF m 51 #[.val (.ref a1), .val (.int p2), .val (.int p3), .val (.int p4), .val (.int p5), .val (.int p6), .val (.int p7), .val (.int (((p2 + (1 : Int32)) + (1 : Int32)) + (1 : Int32)))] [(.int (p3 &&& (8 : Int32)))])
        refine own_if X14 hx 63 (hb hby d1_51) (by decide) (by decide) (fun (hc51 : (p3 &&& (8 : Int32)) = (0 : Int32)) => ?_) (fun (hc51 : ¬ (p3 &&& (8 : Int32)) = (0 : Int32)) => ?_)
        · show own_Go p e below _ T14 (mkF m 63 #[.val (.ref a1), .val (.int p2), .val (.int p3), .val (.int p4), .val (.int p5), .val (.int p6), .val (.int p7), .val (.int (((p2 + (1 : Int32)) + (1 : Int32)) + (1 : Int32)))] [])
          refine own_by (fun t_ k_ => XS.iload X14.here hx rfl (hb hby d1_63) rfl k_) ?_
          show own_Go p e below _ T14 (mkF m 65 #[.val (.ref a1), .val (.int p2), .val (.int p3), .val (.int p4), .val (.int p5), .val (.int p6), .val (.int p7), .val (.int (((p2 + (1 : Int32)) + (1 : Int32)) + (1 : Int32)))] [(.int (((p2 + (1 : Int32)) + (1 : Int32)) + (1 : Int32)))])
          refine own_retI X14 hx hlk Bd.returns (hb hby d1_65) e14 (by decide) (by decide) ?_
          have hV := V14_0
          refine ⟨_, rfl, ?_, N14, K14, ?_⟩
          · simp only [own_sel, hc6, hc20, hc35, hc51, if_true, if_false, List.nil_append, List.append_nil, List.cons_append]; exact Eq.trans (own_inc (own_inc (own_inc hst (by omega)) (by omega)) (by omega)) (by simp <;> omega)
          · simp only [own_sel, hc6, hc20, hc35, hc51, if_true, if_false, List.nil_append, List.append_nil, List.cons_append]; exact hV
        · show own_Go p e below _ T14 (mkF m 54 #[.val (.ref a1), .val (.int p2), .val (.int p3), .val (.int p4), .val (.int p5), .val (.int p6), .val (.int p7), .val (.int (((p2 + (1 : Int32)) + (1 : Int32)) + (1 : Int32)))] [])
          refine own_by (fun t_ k_ => XS.aloadN X14.here hx rfl (hb hby d1_54) rfl rfl k_) ?_
          show own_Go p e below _ T14 (mkF m 55 #[.val (.ref a1), .val (.int p2), .val (.int p3), .val (.int p4), .val (.int p5), .val (.int p6), .val (.int p7), .val (.int (((p2 + (1 : Int32)) + (1 : Int32)) + (1 : Int32)))] [(.ref a1)])
          refine own_by (fun t_ k_ => XS.iload X14.here hx rfl (hb hby d1_55) rfl k_) ?_
          show own_Go p e below _ T14 (mkF m 57 #[.val (.ref a1), .val (.int p2), .val (.int p3), .val (.int p4), .val (.int p5), .val (.int p6), .val (.int p7), .val (.int (((p2 + (1 : Int32)) + (1 : Int32)) + (1 : Int32)))] [(.int (((p2 + (1 : Int32)) + (1 : Int32)) + (1 : Int32))), (.ref a1)])
          refine own_by (fun t_ k_ => XS.iload X14.here hx rfl (hb hby d1_57) rfl k_) ?_
          show own_Go p e below _ T14 (mkF m 59 #[.val (.ref a1), .val (.int p2), .val (.int p3), .val (.int p4), .val (.int p5), .val (.int p6), .val (.int p7), .val (.int (((p2 + (1 : Int32)) + (1 : Int32)) + (1 : Int32)))] [(.int p7), (.int (((p2 + (1 : Int32)) + (1 : Int32)) + (1 : Int32))), (.ref a1)])
          refine own_iastore X14 hx hZ e14 V14_0 (i + 3) (own_inc (own_inc (own_inc hst (by omega)) (by omega)) (by omega)) (by first | omega | (simp; omega)) (hb hby d1_59) ?_
          intro T15 h15 X15 e15 W15 A15
          have V15_0 : own_Arr Z h15 a1 .int ((((vs.set i (.int p4)).set (i + 1) (.int p5)).set (i + 2) (.int p6)).set (i + 3) (.int p7)) := A15
          have N15 := Fr.snoc X15 N14 g_a1
          have sz15 : n0 ≤ h15.size := Nat.le_trans sz14 (Keep.of_wr W15).1
          have K15 : Keep h0 h15 [a1] := K14.wr W15 (Or.inl (List.mem_cons_self ..))
          show own_Go p e below _ T15 (mkF m 60 #[.val (.ref a1), .val (.int p2), .val (.int p3), .val (.int p4), .val (.int p5), .val (.int p6), .val (.int p7), .val (.int (((p2 + (1 : Int32)) + (1 : Int32)) + (1 : Int32)))] [])
          refine own_by (fun t_ k_ => XS.iinc X15.here hx rfl (hb hby d1_60) rfl (l' := #[.val (.ref a1), .val (.int p2), .val (.int p3), .val (.int p4), .val (.int p5), .val (.int p6), .val (.int p7), .val (.int ((((p2 + (1 : Int32)) + (1 : Int32)) + (1 : Int32)) + (1 : Int32)))]) rfl k_) ?_
          show own_Go p e below _ T15 (mkF m 63 #[.val (.ref a1), .val (.int p2), .val (.int p3), .val (.int p4), .val (.int p5), .val (.int p6), .val (.int p7), .val (.int ((((p2 + (1 : Int32)) + (1 : Int32)) + (1 : Int32)) + (1 : Int32)))] [])
          refine own_by (fun t_ k_ => XS.iload X15.here hx rfl (hb hby d1_63) rfl k_) ?_
          show own_Go p e below _ T15 (mkF m 65 #[.val (.ref a1), .val (.int p2), .val (.int p3), .val (.int p4), .val (.int p5), .val (.int p6), .val (.int p7), .val (.int ((((p2 + (1 : Int32)) + (1 : Int32)) + (1 : Int32)) + (1 : Int32)))] [(.int ((((p2 + (1 : Int32)) + (1 : Int32)) + (1 : Int32)) + (1 : Int32)))])
          refine own_retI X15 hx hlk Bd.returns (hb hby d1_65) e15 (by decide) (by decide) ?_
          have hV := V15_0
          refine ⟨_, rfl, ?_, N15, K15, ?_⟩
          · simp only [own_sel, hc6, hc20, hc35, hc51, if_true, if_false, List.nil_append, List.append_nil, List.cons_append]; exact Eq.trans (own_inc (own_inc (own_inc (own_inc hst (by omega)) (by omega)) (by omega)) (by omega)) (by simp <;> omega)
          · simp only [own_sel, hc6, hc20, hc35, hc51, if_true, if_false, List.nil_append, List.append_nil, List.cons_append]; exact hV
theorem ef_2 (m : MethodId) (a1 : Addr) (p2 : Int32) (p3 : Int32) (a4 : Addr) (p5 : Int32) (p6 : Int32) (a7 : Addr) : entryFrame m #[(.ref a1), (.int p2), (.int p3), (.ref a4), (.int p5), (.int p6), (.ref a7)] 10 = mkF m 0 #[.val (.ref a1), .val (.int p2), .val (.int p3), .val (.ref a4), .val (.int p5), .val (.int p6), .val (.ref a7), .unset, .unset, .unset] [] := by first | (simp [entryFrame, mkF, argsToLocals, Value.category]; done) | rfl
set_option maxRecDepth 65536 in
set_option maxHeartbeats 40000000 in
theorem rm2 (l : Launch) (Z : State) (a0 : Array Value) (hw : ∀ d ∈ tables_1, d.before a0 Z = true) (ws : List Jvm.Cond) (a1 : Addr) (p2 : Int32) (p3 : Int32) (a4 : Addr) (p5 : Int32) (p6 : Int32) (a7 : Addr) (va : List Value) (vb : List Value) (vi : List Value) (A : List Int32) (B : List Int32) (ia : Nat) (jb : Nat) (h0 : Heap) (n0 : Nat) (Z0 : n0 ≤ h0.size) (V_a1_0 : own_Arr Z h0 a1 .int va) (V_a4_0 : own_Arr Z h0 a4 .int vb) (V_a7_0 : own_Arr Z h0 a7 .int vi) (ne17 : a1 ≠ a7) (ne47 : a4 ≠ a7) (g_a7 : n0 ≤ a7) (hp2 : p2.toInt = (ia : Int)) (hp3 : p3.toInt = ((ia + A.length : Nat) : Int)) (hA : own_At va ia A) (hp5 : p5.toInt = (jb : Int)) (hp6 : p6.toInt = ((jb + B.length : Nat) : Int)) (hB : own_At vb jb B) (hlen : A.length + B.length ≤ vi.length) :
    MetFree l (⟨"com/example/valuation/valuation/provenance/Monomial", "union", "([III[III[I)I"⟩ : MethodName) (head1 (Jvm.Cond.code (⟨"com/example/valuation/valuation/provenance/Monomial", "union", "([III[III[I)I"⟩ : MethodName) prog_29_method_6_code 10 (some .int) :: ws) ({ frames := 0, cells := 0, slots := 0, locals := 0 } : Room)) (fun a U => a = #[(.ref a1), (.int p2), (.int p3), (.ref a4), (.int p5), (.int p6), (.ref a7)] ∧ Z.Warmed39 U.vm ∧ U.heap = h0) (fun _ _ _ _ _ => True) (fun _ U o U' => ∃ v L, o = .returned v ∧ Q2 Z a7 vi A B h0 n0 v U'.heap L ∧ FrameEnd U o U' L ({ frames := 0, cells := 0, slots := 0, locals := 0 } : Room).cells ({ frames := 0, cells := 0, slots := 0, locals := 0 } : Room).slots) := by
  refine MetFree.of_bodySF (plainFor_of_name pn_2) hisR ?_
  intro p e s m args below meth c s₁ Bd hml0 hP hK
  obtain ⟨rfl, hZ, hh⟩ := hP
  have hx := Bd.exec
  have hby := Bd.bytes
  have hml : c.maxLocals = 10 := hml0
  have hown : s.vm.findClass "com/example/valuation/valuation/provenance/Monomial" = some m.cls := findClass_of_methodNamed Bd.named
  have hnm := (name_of_methodNamed Bd.named Bd.method).1
  have hlk : meth.locks = false := BodyLoose.notSynchronized Bd
  have X0 : Stand p l e ({ frames := 0, cells := 0, slots := 0, locals := 0 } : Room) s m #[(.ref a1), (.int p2), (.int p3), (.ref a4), (.int p5), (.int p6), (.ref a7)] below meth c s₁ [] 0 0 := Stand.of_body Bd
  have e0 : s₁.heap = h0 := by rw [← hh, Bd.state]; rfl
  have N0 := Fr.nil n0
  refine own_start (Q := Q2 Z a7 vi A B h0 n0) (ef_2 m a1 p2 p3 a4 p5 p6 a7) ?_
  have K0 := Keep.refl h0 [a7]
  have hvl := V_a7_0.len
  have lp126 : ∀ (D : List Int32) (T : State) (locs : List Loc) (h : Heap) (sz mi th : Int32) (σ i j : Nat) (w : List Value), Stand p l e ({ frames := 0, cells := 0, slots := 0, locals := 0 } : Room) s m #[(.ref a1), (.int p2), (.int p3), (.ref a4), (.int p5), (.int p6), (.ref a7)] below meth c T locs 0 0 → T.heap = h → Fr n0 locs → Keep h0 h [a7] → own_Arr Z h a1 .int va → own_Arr Z h a4 .int vb → own_Arr Z h a7 .int w → sz.toInt = (σ : Int) → mi.toInt = (i : Int) → th.toInt = (j : Int) → w.length = vi.length → own_At vb j D → p6.toInt = ((j + D.length : Nat) : Int) → σ + D.length = (own_mg A B).length → σ + D.length ≤ vi.length → own_put w σ D = own_put vi 0 (own_mg A B) → own_Go p e below (own_Fin s (Q2 Z a7 vi A B h0 n0) ({ frames := 0, cells := 0, slots := 0, locals := 0 } : Room).cells ({ frames := 0, cells := 0, slots := 0, locals := 0 } : Room).slots) T (mkF m 126 #[.val (.ref a1), .val (.int p2), .val (.int p3), .val (.ref a4), .val (.int p5), .val (.int p6), .val (.ref a7), .val (.int sz), .val (.int mi), .val (.int th)] []) := by
    intro D
    induction D with
    | nil =>
      intro T locs h sz mi th σ i j w X eT N K Va Vb Vi hsz hmi hth hwl hD hbt hn hle hput
      show own_Go p e below _ T (mkF m 126 #[.val (.ref a1), .val (.int p2), .val (.int p3), .val (.ref a4), .val (.int p5), .val (.int p6), .val (.ref a7), .val (.int sz), .val (.int mi), .val (.int th)] [])
      refine own_by (fun t_ k_ => XS.iload X.here hx rfl (hb hby d2_126) rfl k_) ?_
      show own_Go p e below _ T (mkF m 128 #[.val (.ref a1), .val (.int p2), .val (.int p3), .val (.ref a4), .val (.int p5), .val (.int p6), .val (.ref a7), .val (.int sz), .val (.int mi), .val (.int th)] [(.int th)])
      refine own_by (fun t_ k_ => XS.iload X.here hx rfl (hb hby d2_128) rfl k_) ?_
      show own_Go p e below _ T (mkF m 130 #[.val (.ref a1), .val (.int p2), .val (.int p3), .val (.ref a4), .val (.int p5), .val (.int p6), .val (.ref a7), .val (.int sz), .val (.int mi), .val (.int th)] [(.int p6), (.int th)])
      refine own_icmp X hx 151 (hb hby d2_130) (by decide) (by decide) (fun _ => ?_) (fun hc => absurd (show ¬ th < p6 from own_nlt hth hbt (by simp)) (by first | exact hc | exact not_not_intro hc))
      show own_Go p e below _ T (mkF m 151 #[.val (.ref a1), .val (.int p2), .val (.int p3), .val (.ref a4), .val (.int p5), .val (.int p6), .val (.ref a7), .val (.int sz), .val (.int mi), .val (.int th)] [])
      refine own_by (fun t_ k_ => XS.iload X.here hx rfl (hb hby d2_151) rfl k_) ?_
      show own_Go p e below _ T (mkF m 153 #[.val (.ref a1), .val (.int p2), .val (.int p3), .val (.ref a4), .val (.int p5), .val (.int p6), .val (.ref a7), .val (.int sz), .val (.int mi), .val (.int th)] [(.int sz)])
      refine own_retI X hx hlk Bd.returns (hb hby d2_153) eT (by decide) (by decide) ?_
      have hV := Vi
      exact ⟨_, rfl, by rw [hsz]; exact congrArg _ (by simpa using hn), N, K, by simpa [own_put] using hput ▸ hV⟩
    | cons d D ih =>
      intro T locs h sz mi th σ i j w X eT N K Va Vb Vi hsz hmi hth hwl hD hbt hn hle hput
      simp only [List.length_cons] at hbt hn hle
      show own_Go p e below _ T (mkF m 126 #[.val (.ref a1), .val (.int p2), .val (.int p3), .val (.ref a4), .val (.int p5), .val (.int p6), .val (.ref a7), .val (.int sz), .val (.int mi), .val (.int th)] [])
      refine own_by (fun t_ k_ => XS.iload X.here hx rfl (hb hby d2_126) rfl k_) ?_
      show own_Go p e below _ T (mkF m 128 #[.val (.ref a1), .val (.int p2), .val (.int p3), .val (.ref a4), .val (.int p5), .val (.int p6), .val (.ref a7), .val (.int sz), .val (.int mi), .val (.int th)] [(.int th)])
      refine own_by (fun t_ k_ => XS.iload X.here hx rfl (hb hby d2_128) rfl k_) ?_
      show own_Go p e below _ T (mkF m 130 #[.val (.ref a1), .val (.int p2), .val (.int p3), .val (.ref a4), .val (.int p5), .val (.int p6), .val (.ref a7), .val (.int sz), .val (.int mi), .val (.int th)] [(.int p6), (.int th)])
      refine own_icmp X hx 151 (hb hby d2_130) (by decide) (by decide) (fun hc => absurd (show th < p6 from own_ilt hth hbt (by omega)) (by first | exact hc | exact not_not_intro hc)) (fun _ => ?_)
      show own_Go p e below _ T (mkF m 133 #[.val (.ref a1), .val (.int p2), .val (.int p3), .val (.ref a4), .val (.int p5), .val (.int p6), .val (.ref a7), .val (.int sz), .val (.int mi), .val (.int th)] [])
      refine own_by (fun t_ k_ => XS.aload X.here hx rfl (hb hby d2_133) rfl rfl k_) ?_
      show own_Go p e below _ T (mkF m 135 #[.val (.ref a1), .val (.int p2), .val (.int p3), .val (.ref a4), .val (.int p5), .val (.int p6), .val (.ref a7), .val (.int sz), .val (.int mi), .val (.int th)] [(.ref a7)])
      refine own_by (fun t_ k_ => XS.iload X.here hx rfl (hb hby d2_135) rfl k_) ?_
      show own_Go p e below _ T (mkF m 137 #[.val (.ref a1), .val (.int p2), .val (.int p3), .val (.ref a4), .val (.int p5), .val (.int p6), .val (.ref a7), .val (.int sz), .val (.int mi), .val (.int th)] [(.int sz), (.ref a7)])
      refine own_by (fun t_ k_ => XS.iinc X.here hx rfl (hb hby d2_137) rfl (l' := #[.val (.ref a1), .val (.int p2), .val (.int p3), .val (.ref a4), .val (.int p5), .val (.int p6), .val (.ref a7), .val (.int (sz + (1 : Int32))), .val (.int mi), .val (.int th)]) rfl k_) ?_
      show own_Go p e below _ T (mkF m 140 #[.val (.ref a1), .val (.int p2), .val (.int p3), .val (.ref a4), .val (.int p5), .val (.int p6), .val (.ref a7), .val (.int (sz + (1 : Int32))), .val (.int mi), .val (.int th)] [(.int sz), (.ref a7)])
      refine own_by (fun t_ k_ => XS.aloadN X.here hx rfl (hb hby d2_140) rfl rfl k_) ?_
      show own_Go p e below _ T (mkF m 141 #[.val (.ref a1), .val (.int p2), .val (.int p3), .val (.ref a4), .val (.int p5), .val (.int p6), .val (.ref a7), .val (.int (sz + (1 : Int32))), .val (.int mi), .val (.int th)] [(.ref a4), (.int sz), (.ref a7)])
      refine own_by (fun t_ k_ => XS.iload X.here hx rfl (hb hby d2_141) rfl k_) ?_
      show own_Go p e below _ T (mkF m 143 #[.val (.ref a1), .val (.int p2), .val (.int p3), .val (.ref a4), .val (.int p5), .val (.int p6), .val (.ref a7), .val (.int (sz + (1 : Int32))), .val (.int mi), .val (.int th)] [(.int th), (.ref a4), (.int sz), (.ref a7)])
      refine own_by (fun t_ k_ => XS.iinc X.here hx rfl (hb hby d2_143) rfl (l' := #[.val (.ref a1), .val (.int p2), .val (.int p3), .val (.ref a4), .val (.int p5), .val (.int p6), .val (.ref a7), .val (.int (sz + (1 : Int32))), .val (.int mi), .val (.int (th + (1 : Int32)))]) rfl k_) ?_
      show own_Go p e below _ T (mkF m 146 #[.val (.ref a1), .val (.int p2), .val (.int p3), .val (.ref a4), .val (.int p5), .val (.int p6), .val (.ref a7), .val (.int (sz + (1 : Int32))), .val (.int mi), .val (.int (th + (1 : Int32)))] [(.int th), (.ref a4), (.int sz), (.ref a7)])
      refine own_iaload X hx hZ eT Vb (v := (.int d)) j hth hD.1 (hb hby d2_146) ?_
      show own_Go p e below _ T (mkF m 147 #[.val (.ref a1), .val (.int p2), .val (.int p3), .val (.ref a4), .val (.int p5), .val (.int p6), .val (.ref a7), .val (.int (sz + (1 : Int32))), .val (.int mi), .val (.int (th + (1 : Int32)))] [(.int d), (.int sz), (.ref a7)])
      refine own_iastore X hx hZ eT Vi σ hsz (by omega) (hb hby d2_147) ?_
      intro T1 h1 X1 e1 W1 A1
      have V1_0 : own_Arr Z h1 a7 .int (w.set σ (.int d)) := A1
      have N1 := Fr.snoc X1 N g_a7
      have sz1 : n0 ≤ h1.size := Nat.le_trans (Nat.le_trans Z0 K.1) (Keep.of_wr W1).1
      have K1 : Keep h0 h1 [a7] := K.wr W1 (Or.inl (List.mem_cons_self ..))
      show own_Go p e below _ T1 (mkF m 148 #[.val (.ref a1), .val (.int p2), .val (.int p3), .val (.ref a4), .val (.int p5), .val (.int p6), .val (.ref a7), .val (.int (sz + (1 : Int32))), .val (.int mi), .val (.int (th + (1 : Int32)))] [])
      refine own_by (fun t_ k_ => XS.goto X1.here hx rfl (pc0 := 148) (pc' := 126) rfl (hb hby d2_148) (by decide) (by decide) k_) ?_
      have Va_2 : own_Arr Z h1 a1 .int va := (own_Arr.other Va W1 ne17)
      have Vb_3 : own_Arr Z h1 a4 .int vb := (own_Arr.other Vb W1 ne47)
      exact ih  T1 _ h1 (sz + (1 : Int32)) mi (th + (1 : Int32)) (σ + 1) i (j + 1) _ X1 e1 N1 K1 Va_2 Vb_3 V1_0 (own_inc hsz (by omega)) hmi (own_inc hth (by have := own_lt_of hD.1; have := Vb.len; omega)) (by simpa using hwl) hD.2 (by rw [hbt]; exact congrArg _ (by omega)) (by omega) (by omega) hput
  have lp102 : ∀ (D E : List Int32) (T : State) (locs : List Loc) (h : Heap) (sz mi th : Int32) (σ i j : Nat) (w : List Value), Stand p l e ({ frames := 0, cells := 0, slots := 0, locals := 0 } : Room) s m #[(.ref a1), (.int p2), (.int p3), (.ref a4), (.int p5), (.int p6), (.ref a7)] below meth c T locs 0 0 → T.heap = h → Fr n0 locs → Keep h0 h [a7] → own_Arr Z h a1 .int va → own_Arr Z h a4 .int vb → own_Arr Z h a7 .int w → sz.toInt = (σ : Int) → mi.toInt = (i : Int) → th.toInt = (j : Int) → w.length = vi.length → own_At va i D → p3.toInt = ((i + D.length : Nat) : Int) → own_At vb j E → p6.toInt = ((j + E.length : Nat) : Int) → σ + D.length + E.length = (own_mg A B).length → σ + D.length + E.length ≤ vi.length → own_put w σ (D ++ E) = own_put vi 0 (own_mg A B) → own_Go p e below (own_Fin s (Q2 Z a7 vi A B h0 n0) ({ frames := 0, cells := 0, slots := 0, locals := 0 } : Room).cells ({ frames := 0, cells := 0, slots := 0, locals := 0 } : Room).slots) T (mkF m 102 #[.val (.ref a1), .val (.int p2), .val (.int p3), .val (.ref a4), .val (.int p5), .val (.int p6), .val (.ref a7), .val (.int sz), .val (.int mi), .val (.int th)] []) := by
    intro D E
    induction D with
    | nil =>
      intro T locs h sz mi th σ i j w X eT N K Va Vb Vi hsz hmi hth hwl hD ha hE hbt hn hle hput
      show own_Go p e below _ T (mkF m 102 #[.val (.ref a1), .val (.int p2), .val (.int p3), .val (.ref a4), .val (.int p5), .val (.int p6), .val (.ref a7), .val (.int sz), .val (.int mi), .val (.int th)] [])
      refine own_by (fun t_ k_ => XS.iload X.here hx rfl (hb hby d2_102) rfl k_) ?_
      show own_Go p e below _ T (mkF m 104 #[.val (.ref a1), .val (.int p2), .val (.int p3), .val (.ref a4), .val (.int p5), .val (.int p6), .val (.ref a7), .val (.int sz), .val (.int mi), .val (.int th)] [(.int mi)])
      refine own_by (fun t_ k_ => XS.iloadN X.here hx rfl (hb hby d2_104) rfl k_) ?_
      show own_Go p e below _ T (mkF m 105 #[.val (.ref a1), .val (.int p2), .val (.int p3), .val (.ref a4), .val (.int p5), .val (.int p6), .val (.ref a7), .val (.int sz), .val (.int mi), .val (.int th)] [(.int p3), (.int mi)])
      refine own_icmp X hx 126 (hb hby d2_105) (by decide) (by decide) (fun _ => ?_) (fun hc => absurd (show ¬ mi < p3 from own_nlt hmi ha (by simp)) (by first | exact hc | exact not_not_intro hc))
      exact lp126 E T _ h sz mi th σ i j _ X eT N K Va Vb Vi hsz hmi hth hwl hE hbt (by simpa using hn) (by simpa using hle) (by simpa using hput)
    | cons d D ih =>
      intro T locs h sz mi th σ i j w X eT N K Va Vb Vi hsz hmi hth hwl hD ha hE hbt hn hle hput
      simp only [List.length_cons] at ha hn hle
      show own_Go p e below _ T (mkF m 102 #[.val (.ref a1), .val (.int p2), .val (.int p3), .val (.ref a4), .val (.int p5), .val (.int p6), .val (.ref a7), .val (.int sz), .val (.int mi), .val (.int th)] [])
      refine own_by (fun t_ k_ => XS.iload X.here hx rfl (hb hby d2_102) rfl k_) ?_
      show own_Go p e below _ T (mkF m 104 #[.val (.ref a1), .val (.int p2), .val (.int p3), .val (.ref a4), .val (.int p5), .val (.int p6), .val (.ref a7), .val (.int sz), .val (.int mi), .val (.int th)] [(.int mi)])
      refine own_by (fun t_ k_ => XS.iloadN X.here hx rfl (hb hby d2_104) rfl k_) ?_
      show own_Go p e below _ T (mkF m 105 #[.val (.ref a1), .val (.int p2), .val (.int p3), .val (.ref a4), .val (.int p5), .val (.int p6), .val (.ref a7), .val (.int sz), .val (.int mi), .val (.int th)] [(.int p3), (.int mi)])
      refine own_icmp X hx 126 (hb hby d2_105) (by decide) (by decide) (fun hc => absurd (show mi < p3 from own_ilt hmi ha (by omega)) (by first | exact hc | exact not_not_intro hc)) (fun _ => ?_)
      show own_Go p e below _ T (mkF m 108 #[.val (.ref a1), .val (.int p2), .val (.int p3), .val (.ref a4), .val (.int p5), .val (.int p6), .val (.ref a7), .val (.int sz), .val (.int mi), .val (.int th)] [])
      refine own_by (fun t_ k_ => XS.aload X.here hx rfl (hb hby d2_108) rfl rfl k_) ?_
      show own_Go p e below _ T (mkF m 110 #[.val (.ref a1), .val (.int p2), .val (.int p3), .val (.ref a4), .val (.int p5), .val (.int p6), .val (.ref a7), .val (.int sz), .val (.int mi), .val (.int th)] [(.ref a7)])
      refine own_by (fun t_ k_ => XS.iload X.here hx rfl (hb hby d2_110) rfl k_) ?_
      show own_Go p e below _ T (mkF m 112 #[.val (.ref a1), .val (.int p2), .val (.int p3), .val (.ref a4), .val (.int p5), .val (.int p6), .val (.ref a7), .val (.int sz), .val (.int mi), .val (.int th)] [(.int sz), (.ref a7)])
      refine own_by (fun t_ k_ => XS.iinc X.here hx rfl (hb hby d2_112) rfl (l' := #[.val (.ref a1), .val (.int p2), .val (.int p3), .val (.ref a4), .val (.int p5), .val (.int p6), .val (.ref a7), .val (.int (sz + (1 : Int32))), .val (.int mi), .val (.int th)]) rfl k_) ?_
      show own_Go p e below _ T (mkF m 115 #[.val (.ref a1), .val (.int p2), .val (.int p3), .val (.ref a4), .val (.int p5), .val (.int p6), .val (.ref a7), .val (.int (sz + (1 : Int32))), .val (.int mi), .val (.int th)] [(.int sz), (.ref a7)])
      refine own_by (fun t_ k_ => XS.aloadN X.here hx rfl (hb hby d2_115) rfl rfl k_) ?_
      show own_Go p e below _ T (mkF m 116 #[.val (.ref a1), .val (.int p2), .val (.int p3), .val (.ref a4), .val (.int p5), .val (.int p6), .val (.ref a7), .val (.int (sz + (1 : Int32))), .val (.int mi), .val (.int th)] [(.ref a1), (.int sz), (.ref a7)])
      refine own_by (fun t_ k_ => XS.iload X.here hx rfl (hb hby d2_116) rfl k_) ?_
      show own_Go p e below _ T (mkF m 118 #[.val (.ref a1), .val (.int p2), .val (.int p3), .val (.ref a4), .val (.int p5), .val (.int p6), .val (.ref a7), .val (.int (sz + (1 : Int32))), .val (.int mi), .val (.int th)] [(.int mi), (.ref a1), (.int sz), (.ref a7)])
      refine own_by (fun t_ k_ => XS.iinc X.here hx rfl (hb hby d2_118) rfl (l' := #[.val (.ref a1), .val (.int p2), .val (.int p3), .val (.ref a4), .val (.int p5), .val (.int p6), .val (.ref a7), .val (.int (sz + (1 : Int32))), .val (.int (mi + (1 : Int32))), .val (.int th)]) rfl k_) ?_
      show own_Go p e below _ T (mkF m 121 #[.val (.ref a1), .val (.int p2), .val (.int p3), .val (.ref a4), .val (.int p5), .val (.int p6), .val (.ref a7), .val (.int (sz + (1 : Int32))), .val (.int (mi + (1 : Int32))), .val (.int th)] [(.int mi), (.ref a1), (.int sz), (.ref a7)])
      refine own_iaload X hx hZ eT Va (v := (.int d)) i hmi hD.1 (hb hby d2_121) ?_
      show own_Go p e below _ T (mkF m 122 #[.val (.ref a1), .val (.int p2), .val (.int p3), .val (.ref a4), .val (.int p5), .val (.int p6), .val (.ref a7), .val (.int (sz + (1 : Int32))), .val (.int (mi + (1 : Int32))), .val (.int th)] [(.int d), (.int sz), (.ref a7)])
      refine own_iastore X hx hZ eT Vi σ hsz (by omega) (hb hby d2_122) ?_
      intro T1 h1 X1 e1 W1 A1
      have V1_0 : own_Arr Z h1 a7 .int (w.set σ (.int d)) := A1
      have N1 := Fr.snoc X1 N g_a7
      have sz1 : n0 ≤ h1.size := Nat.le_trans (Nat.le_trans Z0 K.1) (Keep.of_wr W1).1
      have K1 : Keep h0 h1 [a7] := K.wr W1 (Or.inl (List.mem_cons_self ..))
      show own_Go p e below _ T1 (mkF m 123 #[.val (.ref a1), .val (.int p2), .val (.int p3), .val (.ref a4), .val (.int p5), .val (.int p6), .val (.ref a7), .val (.int (sz + (1 : Int32))), .val (.int (mi + (1 : Int32))), .val (.int th)] [])
      refine own_by (fun t_ k_ => XS.goto X1.here hx rfl (pc0 := 123) (pc' := 102) rfl (hb hby d2_123) (by decide) (by decide) k_) ?_
      have Va_2 : own_Arr Z h1 a1 .int va := (own_Arr.other Va W1 ne17)
      have Vb_3 : own_Arr Z h1 a4 .int vb := (own_Arr.other Vb W1 ne47)
      exact ih  T1 _ h1 (sz + (1 : Int32)) (mi + (1 : Int32)) th (σ + 1) (i + 1) j _ X1 e1 N1 K1 Va_2 Vb_3 V1_0 (own_inc hsz (by omega)) (own_inc hmi (by have := own_lt_of hD.1; have := Va.len; omega)) hth (by simpa using hwl) hD.2 (by rw [ha]; exact congrArg _ (by omega)) hE hbt (by omega) (by omega) hput
  have lp10 : ∀ (M : Nat) (D E : List Int32) (T : State) (locs : List Loc) (h : Heap) (sz mi th : Int32) (σ i j : Nat) (w : List Value), Stand p l e ({ frames := 0, cells := 0, slots := 0, locals := 0 } : Room) s m #[(.ref a1), (.int p2), (.int p3), (.ref a4), (.int p5), (.int p6), (.ref a7)] below meth c T locs 0 0 → T.heap = h → Fr n0 locs → Keep h0 h [a7] → own_Arr Z h a1 .int va → own_Arr Z h a4 .int vb → own_Arr Z h a7 .int w → sz.toInt = (σ : Int) → mi.toInt = (i : Int) → th.toInt = (j : Int) → w.length = vi.length → D.length + E.length ≤ M → own_At va i D → p3.toInt = ((i + D.length : Nat) : Int) → own_At vb j E → p6.toInt = ((j + E.length : Nat) : Int) → σ + (own_mg D E).length = (own_mg A B).length → σ + D.length + E.length ≤ vi.length → own_put w σ (own_mg D E) = own_put vi 0 (own_mg A B) → own_Go p e below (own_Fin s (Q2 Z a7 vi A B h0 n0) ({ frames := 0, cells := 0, slots := 0, locals := 0 } : Room).cells ({ frames := 0, cells := 0, slots := 0, locals := 0 } : Room).slots) T (mkF m 10 #[.val (.ref a1), .val (.int p2), .val (.int p3), .val (.ref a4), .val (.int p5), .val (.int p6), .val (.ref a7), .val (.int sz), .val (.int mi), .val (.int th)] []) := by
    intro M
    induction M with
    | zero =>
      intro D E
      cases D with
      | nil =>
        intro T locs h sz mi th σ i j w X eT N K Va Vb Vi hsz hmi hth hwl hM hD ha hE hbt hn hle hput
        show own_Go p e below _ T (mkF m 10 #[.val (.ref a1), .val (.int p2), .val (.int p3), .val (.ref a4), .val (.int p5), .val (.int p6), .val (.ref a7), .val (.int sz), .val (.int mi), .val (.int th)] [])
        refine own_by (fun t_ k_ => XS.iload X.here hx rfl (hb hby d2_10) rfl k_) ?_
        show own_Go p e below _ T (mkF m 12 #[.val (.ref a1), .val (.int p2), .val (.int p3), .val (.ref a4), .val (.int p5), .val (.int p6), .val (.ref a7), .val (.int sz), .val (.int mi), .val (.int th)] [(.int mi)])
        refine own_by (fun t_ k_ => XS.iloadN X.here hx rfl (hb hby d2_12) rfl k_) ?_
        show own_Go p e below _ T (mkF m 13 #[.val (.ref a1), .val (.int p2), .val (.int p3), .val (.ref a4), .val (.int p5), .val (.int p6), .val (.ref a7), .val (.int sz), .val (.int mi), .val (.int th)] [(.int p3), (.int mi)])
        refine own_icmp X hx 102 (hb hby d2_13) (by decide) (by decide) (fun _ => ?_) (fun hc => absurd (show ¬ mi < p3 from own_nlt hmi ha (by simp)) (by first | exact hc | exact not_not_intro hc))
        exact lp102 [] E T _ h sz mi th σ i j _ X eT N K Va Vb Vi hsz hmi hth hwl trivial ha hE hbt (by simpa [own_mg_nil] using hn) hle (by simpa [own_mg_nil] using hput)
      | cons d D =>
        cases E with
        | nil =>
          intro T locs h sz mi th σ i j w X eT N K Va Vb Vi hsz hmi hth hwl hM hD ha hE hbt hn hle hput
          show own_Go p e below _ T (mkF m 10 #[.val (.ref a1), .val (.int p2), .val (.int p3), .val (.ref a4), .val (.int p5), .val (.int p6), .val (.ref a7), .val (.int sz), .val (.int mi), .val (.int th)] [])
          refine own_by (fun t_ k_ => XS.iload X.here hx rfl (hb hby d2_10) rfl k_) ?_
          show own_Go p e below _ T (mkF m 12 #[.val (.ref a1), .val (.int p2), .val (.int p3), .val (.ref a4), .val (.int p5), .val (.int p6), .val (.ref a7), .val (.int sz), .val (.int mi), .val (.int th)] [(.int mi)])
          refine own_by (fun t_ k_ => XS.iloadN X.here hx rfl (hb hby d2_12) rfl k_) ?_
          show own_Go p e below _ T (mkF m 13 #[.val (.ref a1), .val (.int p2), .val (.int p3), .val (.ref a4), .val (.int p5), .val (.int p6), .val (.ref a7), .val (.int sz), .val (.int mi), .val (.int th)] [(.int p3), (.int mi)])
          refine own_icmp X hx 102 (hb hby d2_13) (by decide) (by decide) (fun hc => absurd (show mi < p3 from own_ilt hmi ha (by simp)) (by first | exact hc | exact not_not_intro hc)) (fun _ => ?_)
          show own_Go p e below _ T (mkF m 16 #[.val (.ref a1), .val (.int p2), .val (.int p3), .val (.ref a4), .val (.int p5), .val (.int p6), .val (.ref a7), .val (.int sz), .val (.int mi), .val (.int th)] [])
          refine own_by (fun t_ k_ => XS.iload X.here hx rfl (hb hby d2_16) rfl k_) ?_
          show own_Go p e below _ T (mkF m 18 #[.val (.ref a1), .val (.int p2), .val (.int p3), .val (.ref a4), .val (.int p5), .val (.int p6), .val (.ref a7), .val (.int sz), .val (.int mi), .val (.int th)] [(.int th)])
          refine own_by (fun t_ k_ => XS.iload X.here hx rfl (hb hby d2_18) rfl k_) ?_
          show own_Go p e below _ T (mkF m 20 #[.val (.ref a1), .val (.int p2), .val (.int p3), .val (.ref a4), .val (.int p5), .val (.int p6), .val (.ref a7), .val (.int sz), .val (.int mi), .val (.int th)] [(.int p6), (.int th)])
          refine own_icmp X hx 102 (hb hby d2_20) (by decide) (by decide) (fun _ => ?_) (fun hc => absurd (show ¬ th < p6 from own_nlt hth hbt (by simp)) (by first | exact hc | exact not_not_intro hc))
          exact lp102 (d :: D) [] T _ h sz mi th σ i j _ X eT N K Va Vb Vi hsz hmi hth hwl hD ha trivial hbt (by simpa [own_mg_nil'] using hn) hle (by simpa [own_mg_nil'] using hput)
        | cons f E =>
          intro T locs h sz mi th σ i j w X eT N K Va Vb Vi hsz hmi hth hwl hM hD ha hE hbt hn hle hput
          simp at hM
    | succ M ih =>
      intro D E
      cases D with
      | nil =>
        intro T locs h sz mi th σ i j w X eT N K Va Vb Vi hsz hmi hth hwl hM hD ha hE hbt hn hle hput
        show own_Go p e below _ T (mkF m 10 #[.val (.ref a1), .val (.int p2), .val (.int p3), .val (.ref a4), .val (.int p5), .val (.int p6), .val (.ref a7), .val (.int sz), .val (.int mi), .val (.int th)] [])
        refine own_by (fun t_ k_ => XS.iload X.here hx rfl (hb hby d2_10) rfl k_) ?_
        show own_Go p e below _ T (mkF m 12 #[.val (.ref a1), .val (.int p2), .val (.int p3), .val (.ref a4), .val (.int p5), .val (.int p6), .val (.ref a7), .val (.int sz), .val (.int mi), .val (.int th)] [(.int mi)])
        refine own_by (fun t_ k_ => XS.iloadN X.here hx rfl (hb hby d2_12) rfl k_) ?_
        show own_Go p e below _ T (mkF m 13 #[.val (.ref a1), .val (.int p2), .val (.int p3), .val (.ref a4), .val (.int p5), .val (.int p6), .val (.ref a7), .val (.int sz), .val (.int mi), .val (.int th)] [(.int p3), (.int mi)])
        refine own_icmp X hx 102 (hb hby d2_13) (by decide) (by decide) (fun _ => ?_) (fun hc => absurd (show ¬ mi < p3 from own_nlt hmi ha (by simp)) (by first | exact hc | exact not_not_intro hc))
        exact lp102 [] E T _ h sz mi th σ i j _ X eT N K Va Vb Vi hsz hmi hth hwl trivial ha hE hbt (by simpa [own_mg_nil] using hn) hle (by simpa [own_mg_nil] using hput)
      | cons d D =>
        cases E with
        | nil =>
          intro T locs h sz mi th σ i j w X eT N K Va Vb Vi hsz hmi hth hwl hM hD ha hE hbt hn hle hput
          show own_Go p e below _ T (mkF m 10 #[.val (.ref a1), .val (.int p2), .val (.int p3), .val (.ref a4), .val (.int p5), .val (.int p6), .val (.ref a7), .val (.int sz), .val (.int mi), .val (.int th)] [])
          refine own_by (fun t_ k_ => XS.iload X.here hx rfl (hb hby d2_10) rfl k_) ?_
          show own_Go p e below _ T (mkF m 12 #[.val (.ref a1), .val (.int p2), .val (.int p3), .val (.ref a4), .val (.int p5), .val (.int p6), .val (.ref a7), .val (.int sz), .val (.int mi), .val (.int th)] [(.int mi)])
          refine own_by (fun t_ k_ => XS.iloadN X.here hx rfl (hb hby d2_12) rfl k_) ?_
          show own_Go p e below _ T (mkF m 13 #[.val (.ref a1), .val (.int p2), .val (.int p3), .val (.ref a4), .val (.int p5), .val (.int p6), .val (.ref a7), .val (.int sz), .val (.int mi), .val (.int th)] [(.int p3), (.int mi)])
          refine own_icmp X hx 102 (hb hby d2_13) (by decide) (by decide) (fun hc => absurd (show mi < p3 from own_ilt hmi ha (by simp)) (by first | exact hc | exact not_not_intro hc)) (fun _ => ?_)
          show own_Go p e below _ T (mkF m 16 #[.val (.ref a1), .val (.int p2), .val (.int p3), .val (.ref a4), .val (.int p5), .val (.int p6), .val (.ref a7), .val (.int sz), .val (.int mi), .val (.int th)] [])
          refine own_by (fun t_ k_ => XS.iload X.here hx rfl (hb hby d2_16) rfl k_) ?_
          show own_Go p e below _ T (mkF m 18 #[.val (.ref a1), .val (.int p2), .val (.int p3), .val (.ref a4), .val (.int p5), .val (.int p6), .val (.ref a7), .val (.int sz), .val (.int mi), .val (.int th)] [(.int th)])
          refine own_by (fun t_ k_ => XS.iload X.here hx rfl (hb hby d2_18) rfl k_) ?_
          show own_Go p e below _ T (mkF m 20 #[.val (.ref a1), .val (.int p2), .val (.int p3), .val (.ref a4), .val (.int p5), .val (.int p6), .val (.ref a7), .val (.int sz), .val (.int mi), .val (.int th)] [(.int p6), (.int th)])
          refine own_icmp X hx 102 (hb hby d2_20) (by decide) (by decide) (fun _ => ?_) (fun hc => absurd (show ¬ th < p6 from own_nlt hth hbt (by simp)) (by first | exact hc | exact not_not_intro hc))
          exact lp102 (d :: D) [] T _ h sz mi th σ i j _ X eT N K Va Vb Vi hsz hmi hth hwl hD ha trivial hbt (by simpa [own_mg_nil'] using hn) hle (by simpa [own_mg_nil'] using hput)
        | cons f E =>
          intro T locs h sz mi th σ i j w X eT N K Va Vb Vi hsz hmi hth hwl hM hD ha hE hbt hn hle hput
          have hb1 := own_lt_of hD.1
          have hb2 := own_lt_of hE.1
          have hl1 := Va.len
          have hl2 := Vb.len
          rw [own_mg_cons] at hn hput
          simp only [List.length_cons] at hM ha hbt hle
          show own_Go p e below _ T (mkF m 10 #[.val (.ref a1), .val (.int p2), .val (.int p3), .val (.ref a4), .val (.int p5), .val (.int p6), .val (.ref a7), .val (.int sz), .val (.int mi), .val (.int th)] [])
          refine own_by (fun t_ k_ => XS.iload X.here hx rfl (hb hby d2_10) rfl k_) ?_
          show own_Go p e below _ T (mkF m 12 #[.val (.ref a1), .val (.int p2), .val (.int p3), .val (.ref a4), .val (.int p5), .val (.int p6), .val (.ref a7), .val (.int sz), .val (.int mi), .val (.int th)] [(.int mi)])
          refine own_by (fun t_ k_ => XS.iloadN X.here hx rfl (hb hby d2_12) rfl k_) ?_
          show own_Go p e below _ T (mkF m 13 #[.val (.ref a1), .val (.int p2), .val (.int p3), .val (.ref a4), .val (.int p5), .val (.int p6), .val (.ref a7), .val (.int sz), .val (.int mi), .val (.int th)] [(.int p3), (.int mi)])
          refine own_icmp X hx 102 (hb hby d2_13) (by decide) (by decide) (fun hc => absurd (show mi < p3 from own_ilt hmi ha (by omega)) (by first | exact hc | exact not_not_intro hc)) (fun _ => ?_)
          show own_Go p e below _ T (mkF m 16 #[.val (.ref a1), .val (.int p2), .val (.int p3), .val (.ref a4), .val (.int p5), .val (.int p6), .val (.ref a7), .val (.int sz), .val (.int mi), .val (.int th)] [])
          refine own_by (fun t_ k_ => XS.iload X.here hx rfl (hb hby d2_16) rfl k_) ?_
          show own_Go p e below _ T (mkF m 18 #[.val (.ref a1), .val (.int p2), .val (.int p3), .val (.ref a4), .val (.int p5), .val (.int p6), .val (.ref a7), .val (.int sz), .val (.int mi), .val (.int th)] [(.int th)])
          refine own_by (fun t_ k_ => XS.iload X.here hx rfl (hb hby d2_18) rfl k_) ?_
          show own_Go p e below _ T (mkF m 20 #[.val (.ref a1), .val (.int p2), .val (.int p3), .val (.ref a4), .val (.int p5), .val (.int p6), .val (.ref a7), .val (.int sz), .val (.int mi), .val (.int th)] [(.int p6), (.int th)])
          refine own_icmp X hx 102 (hb hby d2_20) (by decide) (by decide) (fun hc => absurd (show th < p6 from own_ilt hth hbt (by omega)) (by first | exact hc | exact not_not_intro hc)) (fun _ => ?_)
          show own_Go p e below _ T (mkF m 23 #[.val (.ref a1), .val (.int p2), .val (.int p3), .val (.ref a4), .val (.int p5), .val (.int p6), .val (.ref a7), .val (.int sz), .val (.int mi), .val (.int th)] [])
          refine own_by (fun t_ k_ => XS.aloadN X.here hx rfl (hb hby d2_23) rfl rfl k_) ?_
          show own_Go p e below _ T (mkF m 24 #[.val (.ref a1), .val (.int p2), .val (.int p3), .val (.ref a4), .val (.int p5), .val (.int p6), .val (.ref a7), .val (.int sz), .val (.int mi), .val (.int th)] [(.ref a1)])
          refine own_by (fun t_ k_ => XS.iload X.here hx rfl (hb hby d2_24) rfl k_) ?_
          show own_Go p e below _ T (mkF m 26 #[.val (.ref a1), .val (.int p2), .val (.int p3), .val (.ref a4), .val (.int p5), .val (.int p6), .val (.ref a7), .val (.int sz), .val (.int mi), .val (.int th)] [(.int mi), (.ref a1)])
          refine own_iaload X hx hZ eT Va (v := (.int d)) i hmi hD.1 (hb hby d2_26) ?_
          show own_Go p e below _ T (mkF m 27 #[.val (.ref a1), .val (.int p2), .val (.int p3), .val (.ref a4), .val (.int p5), .val (.int p6), .val (.ref a7), .val (.int sz), .val (.int mi), .val (.int th)] [(.int d)])
          refine own_by (fun t_ k_ => XS.aloadN X.here hx rfl (hb hby d2_27) rfl rfl k_) ?_
          show own_Go p e below _ T (mkF m 28 #[.val (.ref a1), .val (.int p2), .val (.int p3), .val (.ref a4), .val (.int p5), .val (.int p6), .val (.ref a7), .val (.int sz), .val (.int mi), .val (.int th)] [(.ref a4), (.int d)])
          refine own_by (fun t_ k_ => XS.iload X.here hx rfl (hb hby d2_28) rfl k_) ?_
          show own_Go p e below _ T (mkF m 30 #[.val (.ref a1), .val (.int p2), .val (.int p3), .val (.ref a4), .val (.int p5), .val (.int p6), .val (.ref a7), .val (.int sz), .val (.int mi), .val (.int th)] [(.int th), (.ref a4), (.int d)])
          refine own_iaload X hx hZ eT Vb (v := (.int f)) j hth hE.1 (hb hby d2_30) ?_
          show own_Go p e below _ T (mkF m 31 #[.val (.ref a1), .val (.int p2), .val (.int p3), .val (.ref a4), .val (.int p5), .val (.int p6), .val (.ref a7), .val (.int sz), .val (.int mi), .val (.int th)] [(.int f), (.int d)])
          refine own_icmp X hx 52 (hb hby d2_31) (by decide) (by decide) (fun (hc31 : ¬ d < f) => ?_) (fun (hc31 : d < f) => ?_)
          · show own_Go p e below _ T (mkF m 52 #[.val (.ref a1), .val (.int p2), .val (.int p3), .val (.ref a4), .val (.int p5), .val (.int p6), .val (.ref a7), .val (.int sz), .val (.int mi), .val (.int th)] [])
            refine own_by (fun t_ k_ => XS.aloadN X.here hx rfl (hb hby d2_52) rfl rfl k_) ?_
            show own_Go p e below _ T (mkF m 53 #[.val (.ref a1), .val (.int p2), .val (.int p3), .val (.ref a4), .val (.int p5), .val (.int p6), .val (.ref a7), .val (.int sz), .val (.int mi), .val (.int th)] [(.ref a1)])
            refine own_by (fun t_ k_ => XS.iload X.here hx rfl (hb hby d2_53) rfl k_) ?_
            show own_Go p e below _ T (mkF m 55 #[.val (.ref a1), .val (.int p2), .val (.int p3), .val (.ref a4), .val (.int p5), .val (.int p6), .val (.ref a7), .val (.int sz), .val (.int mi), .val (.int th)] [(.int mi), (.ref a1)])
            refine own_iaload X hx hZ eT Va (v := (.int d)) i hmi hD.1 (hb hby d2_55) ?_
            show own_Go p e below _ T (mkF m 56 #[.val (.ref a1), .val (.int p2), .val (.int p3), .val (.ref a4), .val (.int p5), .val (.int p6), .val (.ref a7), .val (.int sz), .val (.int mi), .val (.int th)] [(.int d)])
            refine own_by (fun t_ k_ => XS.aloadN X.here hx rfl (hb hby d2_56) rfl rfl k_) ?_
            show own_Go p e below _ T (mkF m 57 #[.val (.ref a1), .val (.int p2), .val (.int p3), .val (.ref a4), .val (.int p5), .val (.int p6), .val (.ref a7), .val (.int sz), .val (.int mi), .val (.int th)] [(.ref a4), (.int d)])
            refine own_by (fun t_ k_ => XS.iload X.here hx rfl (hb hby d2_57) rfl k_) ?_
            show own_Go p e below _ T (mkF m 59 #[.val (.ref a1), .val (.int p2), .val (.int p3), .val (.ref a4), .val (.int p5), .val (.int p6), .val (.ref a7), .val (.int sz), .val (.int mi), .val (.int th)] [(.int th), (.ref a4), (.int d)])
            refine own_iaload X hx hZ eT Vb (v := (.int f)) j hth hE.1 (hb hby d2_59) ?_
            show own_Go p e below _ T (mkF m 60 #[.val (.ref a1), .val (.int p2), .val (.int p3), .val (.ref a4), .val (.int p5), .val (.int p6), .val (.ref a7), .val (.int sz), .val (.int mi), .val (.int th)] [(.int f), (.int d)])
            refine own_icmp X hx 81 (hb hby d2_60) (by decide) (by decide) (fun (hc60 : ¬ f < d) => ?_) (fun (hc60 : f < d) => ?_)
            · show own_Go p e below _ T (mkF m 81 #[.val (.ref a1), .val (.int p2), .val (.int p3), .val (.ref a4), .val (.int p5), .val (.int p6), .val (.ref a7), .val (.int sz), .val (.int mi), .val (.int th)] [])
              refine own_by (fun t_ k_ => XS.aload X.here hx rfl (hb hby d2_81) rfl rfl k_) ?_
              show own_Go p e below _ T (mkF m 83 #[.val (.ref a1), .val (.int p2), .val (.int p3), .val (.ref a4), .val (.int p5), .val (.int p6), .val (.ref a7), .val (.int sz), .val (.int mi), .val (.int th)] [(.ref a7)])
              refine own_by (fun t_ k_ => XS.iload X.here hx rfl (hb hby d2_83) rfl k_) ?_
              show own_Go p e below _ T (mkF m 85 #[.val (.ref a1), .val (.int p2), .val (.int p3), .val (.ref a4), .val (.int p5), .val (.int p6), .val (.ref a7), .val (.int sz), .val (.int mi), .val (.int th)] [(.int sz), (.ref a7)])
              refine own_by (fun t_ k_ => XS.iinc X.here hx rfl (hb hby d2_85) rfl (l' := #[.val (.ref a1), .val (.int p2), .val (.int p3), .val (.ref a4), .val (.int p5), .val (.int p6), .val (.ref a7), .val (.int (sz + (1 : Int32))), .val (.int mi), .val (.int th)]) rfl k_) ?_
              show own_Go p e below _ T (mkF m 88 #[.val (.ref a1), .val (.int p2), .val (.int p3), .val (.ref a4), .val (.int p5), .val (.int p6), .val (.ref a7), .val (.int (sz + (1 : Int32))), .val (.int mi), .val (.int th)] [(.int sz), (.ref a7)])
              refine own_by (fun t_ k_ => XS.aloadN X.here hx rfl (hb hby d2_88) rfl rfl k_) ?_
              show own_Go p e below _ T (mkF m 89 #[.val (.ref a1), .val (.int p2), .val (.int p3), .val (.ref a4), .val (.int p5), .val (.int p6), .val (.ref a7), .val (.int (sz + (1 : Int32))), .val (.int mi), .val (.int th)] [(.ref a1), (.int sz), (.ref a7)])
              refine own_by (fun t_ k_ => XS.iload X.here hx rfl (hb hby d2_89) rfl k_) ?_
              show own_Go p e below _ T (mkF m 91 #[.val (.ref a1), .val (.int p2), .val (.int p3), .val (.ref a4), .val (.int p5), .val (.int p6), .val (.ref a7), .val (.int (sz + (1 : Int32))), .val (.int mi), .val (.int th)] [(.int mi), (.ref a1), (.int sz), (.ref a7)])
              refine own_by (fun t_ k_ => XS.iinc X.here hx rfl (hb hby d2_91) rfl (l' := #[.val (.ref a1), .val (.int p2), .val (.int p3), .val (.ref a4), .val (.int p5), .val (.int p6), .val (.ref a7), .val (.int (sz + (1 : Int32))), .val (.int (mi + (1 : Int32))), .val (.int th)]) rfl k_) ?_
              show own_Go p e below _ T (mkF m 94 #[.val (.ref a1), .val (.int p2), .val (.int p3), .val (.ref a4), .val (.int p5), .val (.int p6), .val (.ref a7), .val (.int (sz + (1 : Int32))), .val (.int (mi + (1 : Int32))), .val (.int th)] [(.int mi), (.ref a1), (.int sz), (.ref a7)])
              refine own_iaload X hx hZ eT Va (v := (.int d)) i hmi hD.1 (hb hby d2_94) ?_
              show own_Go p e below _ T (mkF m 95 #[.val (.ref a1), .val (.int p2), .val (.int p3), .val (.ref a4), .val (.int p5), .val (.int p6), .val (.ref a7), .val (.int (sz + (1 : Int32))), .val (.int (mi + (1 : Int32))), .val (.int th)] [(.int d), (.int sz), (.ref a7)])
              refine own_iastore X hx hZ eT Vi σ hsz (by omega) (hb hby d2_95) ?_
              intro T1 h1 X1 e1 W1 A1
              have V1_0 : own_Arr Z h1 a7 .int (w.set σ (.int d)) := A1
              have N1 := Fr.snoc X1 N g_a7
              have sz1 : n0 ≤ h1.size := Nat.le_trans (Nat.le_trans Z0 K.1) (Keep.of_wr W1).1
              have K1 : Keep h0 h1 [a7] := K.wr W1 (Or.inl (List.mem_cons_self ..))
              show own_Go p e below _ T1 (mkF m 96 #[.val (.ref a1), .val (.int p2), .val (.int p3), .val (.ref a4), .val (.int p5), .val (.int p6), .val (.ref a7), .val (.int (sz + (1 : Int32))), .val (.int (mi + (1 : Int32))), .val (.int th)] [])
              refine own_by (fun t_ k_ => XS.iinc X1.here hx rfl (hb hby d2_96) rfl (l' := #[.val (.ref a1), .val (.int p2), .val (.int p3), .val (.ref a4), .val (.int p5), .val (.int p6), .val (.ref a7), .val (.int (sz + (1 : Int32))), .val (.int (mi + (1 : Int32))), .val (.int (th + (1 : Int32)))]) rfl k_) ?_
              show own_Go p e below _ T1 (mkF m 99 #[.val (.ref a1), .val (.int p2), .val (.int p3), .val (.ref a4), .val (.int p5), .val (.int p6), .val (.ref a7), .val (.int (sz + (1 : Int32))), .val (.int (mi + (1 : Int32))), .val (.int (th + (1 : Int32)))] [])
              refine own_by (fun t_ k_ => XS.goto X1.here hx rfl (pc0 := 99) (pc' := 10) rfl (hb hby d2_99) (by decide) (by decide) k_) ?_
              have Va_2 : own_Arr Z h1 a1 .int va := (own_Arr.other Va W1 ne17)
              have Vb_3 : own_Arr Z h1 a4 .int vb := (own_Arr.other Vb W1 ne47)
              exact ih D E T1 _ h1 (sz + (1 : Int32)) (mi + (1 : Int32)) (th + (1 : Int32)) (σ + 1) (i + 1) (j + 1) _ X1 e1 N1 K1 Va_2 Vb_3 V1_0 (own_inc hsz (by omega)) (own_inc hmi (by omega)) (own_inc hth (by omega)) (by simpa using hwl) (by omega) hD.2 (by rw [ha]; exact congrArg _ (by omega)) hE.2 (by rw [hbt]; exact congrArg _ (by omega)) (by simp only [if_neg hc31, if_neg hc60, List.length_cons] at hn; omega) (by omega) (by simpa only [if_neg hc31, if_neg hc60, own_put] using hput)
            · show own_Go p e below _ T (mkF m 63 #[.val (.ref a1), .val (.int p2), .val (.int p3), .val (.ref a4), .val (.int p5), .val (.int p6), .val (.ref a7), .val (.int sz), .val (.int mi), .val (.int th)] [])
              refine own_by (fun t_ k_ => XS.aload X.here hx rfl (hb hby d2_63) rfl rfl k_) ?_
              show own_Go p e below _ T (mkF m 65 #[.val (.ref a1), .val (.int p2), .val (.int p3), .val (.ref a4), .val (.int p5), .val (.int p6), .val (.ref a7), .val (.int sz), .val (.int mi), .val (.int th)] [(.ref a7)])
              refine own_by (fun t_ k_ => XS.iload X.here hx rfl (hb hby d2_65) rfl k_) ?_
              show own_Go p e below _ T (mkF m 67 #[.val (.ref a1), .val (.int p2), .val (.int p3), .val (.ref a4), .val (.int p5), .val (.int p6), .val (.ref a7), .val (.int sz), .val (.int mi), .val (.int th)] [(.int sz), (.ref a7)])
              refine own_by (fun t_ k_ => XS.iinc X.here hx rfl (hb hby d2_67) rfl (l' := #[.val (.ref a1), .val (.int p2), .val (.int p3), .val (.ref a4), .val (.int p5), .val (.int p6), .val (.ref a7), .val (.int (sz + (1 : Int32))), .val (.int mi), .val (.int th)]) rfl k_) ?_
              show own_Go p e below _ T (mkF m 70 #[.val (.ref a1), .val (.int p2), .val (.int p3), .val (.ref a4), .val (.int p5), .val (.int p6), .val (.ref a7), .val (.int (sz + (1 : Int32))), .val (.int mi), .val (.int th)] [(.int sz), (.ref a7)])
              refine own_by (fun t_ k_ => XS.aloadN X.here hx rfl (hb hby d2_70) rfl rfl k_) ?_
              show own_Go p e below _ T (mkF m 71 #[.val (.ref a1), .val (.int p2), .val (.int p3), .val (.ref a4), .val (.int p5), .val (.int p6), .val (.ref a7), .val (.int (sz + (1 : Int32))), .val (.int mi), .val (.int th)] [(.ref a4), (.int sz), (.ref a7)])
              refine own_by (fun t_ k_ => XS.iload X.here hx rfl (hb hby d2_71) rfl k_) ?_
              show own_Go p e below _ T (mkF m 73 #[.val (.ref a1), .val (.int p2), .val (.int p3), .val (.ref a4), .val (.int p5), .val (.int p6), .val (.ref a7), .val (.int (sz + (1 : Int32))), .val (.int mi), .val (.int th)] [(.int th), (.ref a4), (.int sz), (.ref a7)])
              refine own_by (fun t_ k_ => XS.iinc X.here hx rfl (hb hby d2_73) rfl (l' := #[.val (.ref a1), .val (.int p2), .val (.int p3), .val (.ref a4), .val (.int p5), .val (.int p6), .val (.ref a7), .val (.int (sz + (1 : Int32))), .val (.int mi), .val (.int (th + (1 : Int32)))]) rfl k_) ?_
              show own_Go p e below _ T (mkF m 76 #[.val (.ref a1), .val (.int p2), .val (.int p3), .val (.ref a4), .val (.int p5), .val (.int p6), .val (.ref a7), .val (.int (sz + (1 : Int32))), .val (.int mi), .val (.int (th + (1 : Int32)))] [(.int th), (.ref a4), (.int sz), (.ref a7)])
              refine own_iaload X hx hZ eT Vb (v := (.int f)) j hth hE.1 (hb hby d2_76) ?_
              show own_Go p e below _ T (mkF m 77 #[.val (.ref a1), .val (.int p2), .val (.int p3), .val (.ref a4), .val (.int p5), .val (.int p6), .val (.ref a7), .val (.int (sz + (1 : Int32))), .val (.int mi), .val (.int (th + (1 : Int32)))] [(.int f), (.int sz), (.ref a7)])
              refine own_iastore X hx hZ eT Vi σ hsz (by omega) (hb hby d2_77) ?_
              intro T4 h4 X4 e4 W4 A4
              have V4_0 : own_Arr Z h4 a7 .int (w.set σ (.int f)) := A4
              have N4 := Fr.snoc X4 N g_a7
              have sz4 : n0 ≤ h4.size := Nat.le_trans (Nat.le_trans Z0 K.1) (Keep.of_wr W4).1
              have K4 : Keep h0 h4 [a7] := K.wr W4 (Or.inl (List.mem_cons_self ..))
              show own_Go p e below _ T4 (mkF m 78 #[.val (.ref a1), .val (.int p2), .val (.int p3), .val (.ref a4), .val (.int p5), .val (.int p6), .val (.ref a7), .val (.int (sz + (1 : Int32))), .val (.int mi), .val (.int (th + (1 : Int32)))] [])
              refine own_by (fun t_ k_ => XS.goto X4.here hx rfl (pc0 := 78) (pc' := 10) rfl (hb hby d2_78) (by decide) (by decide) k_) ?_
              have Va_5 : own_Arr Z h4 a1 .int va := (own_Arr.other Va W4 ne17)
              have Vb_6 : own_Arr Z h4 a4 .int vb := (own_Arr.other Vb W4 ne47)
              exact ih (d :: D) E T4 _ h4 (sz + (1 : Int32)) mi (th + (1 : Int32)) (σ + 1) i (j + 1) _ X4 e4 N4 K4 Va_5 Vb_6 V4_0 (own_inc hsz (by omega)) hmi (own_inc hth (by omega)) (by simpa using hwl) (by simp; omega) hD (by rw [ha]; simp) hE.2 (by rw [hbt]; exact congrArg _ (by omega)) (by simp only [if_neg hc31, if_pos hc60, List.length_cons] at hn; omega) (by simp; omega) (by simpa only [if_neg hc31, if_pos hc60, own_put] using hput)
          · show own_Go p e below _ T (mkF m 34 #[.val (.ref a1), .val (.int p2), .val (.int p3), .val (.ref a4), .val (.int p5), .val (.int p6), .val (.ref a7), .val (.int sz), .val (.int mi), .val (.int th)] [])
            refine own_by (fun t_ k_ => XS.aload X.here hx rfl (hb hby d2_34) rfl rfl k_) ?_
            show own_Go p e below _ T (mkF m 36 #[.val (.ref a1), .val (.int p2), .val (.int p3), .val (.ref a4), .val (.int p5), .val (.int p6), .val (.ref a7), .val (.int sz), .val (.int mi), .val (.int th)] [(.ref a7)])
            refine own_by (fun t_ k_ => XS.iload X.here hx rfl (hb hby d2_36) rfl k_) ?_
            show own_Go p e below _ T (mkF m 38 #[.val (.ref a1), .val (.int p2), .val (.int p3), .val (.ref a4), .val (.int p5), .val (.int p6), .val (.ref a7), .val (.int sz), .val (.int mi), .val (.int th)] [(.int sz), (.ref a7)])
            refine own_by (fun t_ k_ => XS.iinc X.here hx rfl (hb hby d2_38) rfl (l' := #[.val (.ref a1), .val (.int p2), .val (.int p3), .val (.ref a4), .val (.int p5), .val (.int p6), .val (.ref a7), .val (.int (sz + (1 : Int32))), .val (.int mi), .val (.int th)]) rfl k_) ?_
            show own_Go p e below _ T (mkF m 41 #[.val (.ref a1), .val (.int p2), .val (.int p3), .val (.ref a4), .val (.int p5), .val (.int p6), .val (.ref a7), .val (.int (sz + (1 : Int32))), .val (.int mi), .val (.int th)] [(.int sz), (.ref a7)])
            refine own_by (fun t_ k_ => XS.aloadN X.here hx rfl (hb hby d2_41) rfl rfl k_) ?_
            show own_Go p e below _ T (mkF m 42 #[.val (.ref a1), .val (.int p2), .val (.int p3), .val (.ref a4), .val (.int p5), .val (.int p6), .val (.ref a7), .val (.int (sz + (1 : Int32))), .val (.int mi), .val (.int th)] [(.ref a1), (.int sz), (.ref a7)])
            refine own_by (fun t_ k_ => XS.iload X.here hx rfl (hb hby d2_42) rfl k_) ?_
            show own_Go p e below _ T (mkF m 44 #[.val (.ref a1), .val (.int p2), .val (.int p3), .val (.ref a4), .val (.int p5), .val (.int p6), .val (.ref a7), .val (.int (sz + (1 : Int32))), .val (.int mi), .val (.int th)] [(.int mi), (.ref a1), (.int sz), (.ref a7)])
            refine own_by (fun t_ k_ => XS.iinc X.here hx rfl (hb hby d2_44) rfl (l' := #[.val (.ref a1), .val (.int p2), .val (.int p3), .val (.ref a4), .val (.int p5), .val (.int p6), .val (.ref a7), .val (.int (sz + (1 : Int32))), .val (.int (mi + (1 : Int32))), .val (.int th)]) rfl k_) ?_
            show own_Go p e below _ T (mkF m 47 #[.val (.ref a1), .val (.int p2), .val (.int p3), .val (.ref a4), .val (.int p5), .val (.int p6), .val (.ref a7), .val (.int (sz + (1 : Int32))), .val (.int (mi + (1 : Int32))), .val (.int th)] [(.int mi), (.ref a1), (.int sz), (.ref a7)])
            refine own_iaload X hx hZ eT Va (v := (.int d)) i hmi hD.1 (hb hby d2_47) ?_
            show own_Go p e below _ T (mkF m 48 #[.val (.ref a1), .val (.int p2), .val (.int p3), .val (.ref a4), .val (.int p5), .val (.int p6), .val (.ref a7), .val (.int (sz + (1 : Int32))), .val (.int (mi + (1 : Int32))), .val (.int th)] [(.int d), (.int sz), (.ref a7)])
            refine own_iastore X hx hZ eT Vi σ hsz (by omega) (hb hby d2_48) ?_
            intro T7 h7 X7 e7 W7 A7
            have V7_0 : own_Arr Z h7 a7 .int (w.set σ (.int d)) := A7
            have N7 := Fr.snoc X7 N g_a7
            have sz7 : n0 ≤ h7.size := Nat.le_trans (Nat.le_trans Z0 K.1) (Keep.of_wr W7).1
            have K7 : Keep h0 h7 [a7] := K.wr W7 (Or.inl (List.mem_cons_self ..))
            show own_Go p e below _ T7 (mkF m 49 #[.val (.ref a1), .val (.int p2), .val (.int p3), .val (.ref a4), .val (.int p5), .val (.int p6), .val (.ref a7), .val (.int (sz + (1 : Int32))), .val (.int (mi + (1 : Int32))), .val (.int th)] [])
            refine own_by (fun t_ k_ => XS.goto X7.here hx rfl (pc0 := 49) (pc' := 10) rfl (hb hby d2_49) (by decide) (by decide) k_) ?_
            have Va_8 : own_Arr Z h7 a1 .int va := (own_Arr.other Va W7 ne17)
            have Vb_9 : own_Arr Z h7 a4 .int vb := (own_Arr.other Vb W7 ne47)
            exact ih D (f :: E) T7 _ h7 (sz + (1 : Int32)) (mi + (1 : Int32)) th (σ + 1) (i + 1) j _ X7 e7 N7 K7 Va_8 Vb_9 V7_0 (own_inc hsz (by omega)) (own_inc hmi (by omega)) hth (by simpa using hwl) (by simp; omega) hD.2 (by rw [ha]; exact congrArg _ (by omega)) hE (by rw [hbt]; simp) (by simp only [if_pos hc31, List.length_cons] at hn; omega) (by simp; omega) (by simpa only [if_pos hc31, own_put] using hput)
  show own_Go p e below _ s₁ (mkF m 0 #[.val (.ref a1), .val (.int p2), .val (.int p3), .val (.ref a4), .val (.int p5), .val (.int p6), .val (.ref a7), .unset, .unset, .unset] [])
  refine own_by (fun t_ k_ => XS.iconst X0.here hx rfl (hb hby d2_0) k_) ?_
  show own_Go p e below _ s₁ (mkF m 1 #[.val (.ref a1), .val (.int p2), .val (.int p3), .val (.ref a4), .val (.int p5), .val (.int p6), .val (.ref a7), .unset, .unset, .unset] [(.int (0 : Int32))])
  refine own_by (fun t_ k_ => XS.istore X0.here hx rfl (hb hby d2_1) rfl (l' := #[.val (.ref a1), .val (.int p2), .val (.int p3), .val (.ref a4), .val (.int p5), .val (.int p6), .val (.ref a7), .val (.int (0 : Int32)), .unset, .unset]) rfl k_) ?_
  show own_Go p e below _ s₁ (mkF m 3 #[.val (.ref a1), .val (.int p2), .val (.int p3), .val (.ref a4), .val (.int p5), .val (.int p6), .val (.ref a7), .val (.int (0 : Int32)), .unset, .unset] [])
  refine own_by (fun t_ k_ => XS.iloadN X0.here hx rfl (hb hby d2_3) rfl k_) ?_
  show own_Go p e below _ s₁ (mkF m 4 #[.val (.ref a1), .val (.int p2), .val (.int p3), .val (.ref a4), .val (.int p5), .val (.int p6), .val (.ref a7), .val (.int (0 : Int32)), .unset, .unset] [(.int p2)])
  refine own_by (fun t_ k_ => XS.istore X0.here hx rfl (hb hby d2_4) rfl (l' := #[.val (.ref a1), .val (.int p2), .val (.int p3), .val (.ref a4), .val (.int p5), .val (.int p6), .val (.ref a7), .val (.int (0 : Int32)), .val (.int p2), .unset]) rfl k_) ?_
  show own_Go p e below _ s₁ (mkF m 6 #[.val (.ref a1), .val (.int p2), .val (.int p3), .val (.ref a4), .val (.int p5), .val (.int p6), .val (.ref a7), .val (.int (0 : Int32)), .val (.int p2), .unset] [])
  refine own_by (fun t_ k_ => XS.iload X0.here hx rfl (hb hby d2_6) rfl k_) ?_
  show own_Go p e below _ s₁ (mkF m 8 #[.val (.ref a1), .val (.int p2), .val (.int p3), .val (.ref a4), .val (.int p5), .val (.int p6), .val (.ref a7), .val (.int (0 : Int32)), .val (.int p2), .unset] [(.int p5)])
  refine own_by (fun t_ k_ => XS.istore X0.here hx rfl (hb hby d2_8) rfl (l' := #[.val (.ref a1), .val (.int p2), .val (.int p3), .val (.ref a4), .val (.int p5), .val (.int p6), .val (.ref a7), .val (.int (0 : Int32)), .val (.int p2), .val (.int p5)]) rfl k_) ?_
  exact lp10 (A.length + B.length) A B s₁ _ h0 0 p2 p5 0 ia jb vi X0 e0 N0 K0 V_a1_0 V_a4_0 V_a7_0 (by decide) hp2 hp5 rfl (Nat.le_refl _) hA hp3 hB hp6 (by simp) (by omega) rfl
theorem ef_3 (m : MethodId) (a1 : Addr) (a2 : Addr) : entryFrame m #[(.ref a1), (.ref a2)] 2 = mkF m 0 #[.val (.ref a1), .val (.ref a2)] [] := by first | (simp [entryFrame, mkF, argsToLocals, Value.category]; done) | rfl
set_option maxRecDepth 65536 in
set_option maxHeartbeats 40000000 in
theorem rm3 (l : Launch) (Z : State) (a0 : Array Value) (hw : ∀ d ∈ tables_1, d.before a0 Z = true) (ws : List Jvm.Cond) (a1 : Addr) (a2 : Addr) (x0 : Int32) (x1 : Int32) (x2 : Int32) (x3 : Int32) (x4 : Int32) (x5 : Int32) (x6 : Int32) (x7 : Int32) (y0 : Int32) (y1 : Int32) (y2 : Int32) (y3 : Int32) (y4 : Int32) (y5 : Int32) (y6 : Int32) (y7 : Int32) (h0 : Heap) (n0 : Nat) (Z0 : n0 ≤ h0.size) (V_a1_0 : own_Arr Z h0 a1 .int [.int x0, .int x1, .int x2, .int x3, .int x4, .int x5, .int x6, .int x7]) (V_a2_0 : own_Arr Z h0 a2 .int [.int y0, .int y1, .int y2, .int y3, .int y4, .int y5, .int y6, .int y7]) :
    MetFree l (⟨"com/example/valuation/valuation/provenance/MonomialUnionPinLaw", "same8", "([I[I)Z"⟩ : MethodName) (head1 (Jvm.Cond.code (⟨"com/example/valuation/valuation/provenance/MonomialUnionPinLaw", "same8", "([I[I)Z"⟩ : MethodName) method_3_code 2 (some .boolean) :: ws) ({ frames := 0, cells := 0, slots := 0, locals := 0 } : Room)) (fun a U => a = #[(.ref a1), (.ref a2)] ∧ Z.Warmed39 U.vm ∧ U.heap = h0) (fun _ _ _ _ _ => True) (fun _ U o U' => ∃ v L, o = .returned v ∧ Q3 [x0, x1, x2, x3, x4, x5, x6, x7] [y0, y1, y2, y3, y4, y5, y6, y7] h0 n0 v U'.heap L ∧ FrameEnd U o U' L ({ frames := 0, cells := 0, slots := 0, locals := 0 } : Room).cells ({ frames := 0, cells := 0, slots := 0, locals := 0 } : Room).slots) := by
  refine MetFree.of_bodySF (plainFor_of_name pn_0) hisR ?_
  intro p e s m args below meth c s₁ Bd hml0 hP hK
  obtain ⟨rfl, hZ, hh⟩ := hP
  have hx := Bd.exec
  have hby := Bd.bytes
  have hml : c.maxLocals = 2 := hml0
  have hown : s.vm.findClass "com/example/valuation/valuation/provenance/MonomialUnionPinLaw" = some m.cls := findClass_of_methodNamed Bd.named
  have hnm := (name_of_methodNamed Bd.named Bd.method).1
  have hlk : meth.locks = false := BodyLoose.notSynchronized Bd
  have X0 : Stand p l e ({ frames := 0, cells := 0, slots := 0, locals := 0 } : Room) s m #[(.ref a1), (.ref a2)] below meth c s₁ [] 0 0 := Stand.of_body Bd
  have e0 : s₁.heap = h0 := by rw [← hh, Bd.state]; rfl
  have N0 := Fr.nil n0
  refine own_start (Q := Q3 [x0, x1, x2, x3, x4, x5, x6, x7] [y0, y1, y2, y3, y4, y5, y6, y7] h0 n0) (ef_3 m a1 a2) ?_
  show own_Go p e below _ s₁ (mkF m 0 #[.val (.ref a1), .val (.ref a2)] [])
  refine own_by (fun t_ k_ => XS.aloadN X0.here hx rfl (hb hby d3_0) rfl rfl k_) ?_
  show own_Go p e below _ s₁ (mkF m 1 #[.val (.ref a1), .val (.ref a2)] [(.ref a1)])
  refine own_by (fun t_ k_ => XS.iconst X0.here hx rfl (hb hby d3_1) k_) ?_
  show own_Go p e below _ s₁ (mkF m 2 #[.val (.ref a1), .val (.ref a2)] [(.int (0 : Int32)), (.ref a1)])
  refine own_iaload X0 hx hZ e0 V_a1_0 (v := (.int x0)) 0 (by decide) rfl (hb hby d3_2) ?_
  show own_Go p e below _ s₁ (mkF m 3 #[.val (.ref a1), .val (.ref a2)] [(.int x0)])
  refine own_by (fun t_ k_ => XS.aloadN X0.here hx rfl (hb hby d3_3) rfl rfl k_) ?_
  show own_Go p e below _ s₁ (mkF m 4 #[.val (.ref a1), .val (.ref a2)] [(.ref a2), (.int x0)])
  refine own_by (fun t_ k_ => XS.iconst X0.here hx rfl (hb hby d3_4) k_) ?_
  show own_Go p e below _ s₁ (mkF m 5 #[.val (.ref a1), .val (.ref a2)] [(.int (0 : Int32)), (.ref a2), (.int x0)])
  refine own_iaload X0 hx hZ e0 V_a2_0 (v := (.int y0)) 0 (by decide) rfl (hb hby d3_5) ?_
  show own_Go p e below _ s₁ (mkF m 6 #[.val (.ref a1), .val (.ref a2)] [(.int y0), (.int x0)])
  refine own_icmp X0 hx 80 (hb hby d3_6) (by decide) (by decide) (fun (hc6 : ¬ x0 = y0) => ?_) (fun (hc6 : x0 = y0) => ?_)
  · show own_Go p e below _ s₁ (mkF m 80 #[.val (.ref a1), .val (.ref a2)] [])
    refine own_by (fun t_ k_ => XS.iconst X0.here hx rfl (hb hby d3_80) k_) ?_
    show own_Go p e below _ s₁ (mkF m 81 #[.val (.ref a1), .val (.ref a2)] [(.int (0 : Int32))])
    refine own_retZ X0 hx hlk Bd.returns (by decide) (hb hby d3_81) e0 (by decide) (by decide) ?_
    exact ⟨by simp [hc6], N0, rfl⟩
  · show own_Go p e below _ s₁ (mkF m 9 #[.val (.ref a1), .val (.ref a2)] [])
    refine own_by (fun t_ k_ => XS.aloadN X0.here hx rfl (hb hby d3_9) rfl rfl k_) ?_
    show own_Go p e below _ s₁ (mkF m 10 #[.val (.ref a1), .val (.ref a2)] [(.ref a1)])
    refine own_by (fun t_ k_ => XS.iconst X0.here hx rfl (hb hby d3_10) k_) ?_
    show own_Go p e below _ s₁ (mkF m 11 #[.val (.ref a1), .val (.ref a2)] [(.int (1 : Int32)), (.ref a1)])
    refine own_iaload X0 hx hZ e0 V_a1_0 (v := (.int x1)) 1 (by decide) rfl (hb hby d3_11) ?_
    show own_Go p e below _ s₁ (mkF m 12 #[.val (.ref a1), .val (.ref a2)] [(.int x1)])
    refine own_by (fun t_ k_ => XS.aloadN X0.here hx rfl (hb hby d3_12) rfl rfl k_) ?_
    show own_Go p e below _ s₁ (mkF m 13 #[.val (.ref a1), .val (.ref a2)] [(.ref a2), (.int x1)])
    refine own_by (fun t_ k_ => XS.iconst X0.here hx rfl (hb hby d3_13) k_) ?_
    show own_Go p e below _ s₁ (mkF m 14 #[.val (.ref a1), .val (.ref a2)] [(.int (1 : Int32)), (.ref a2), (.int x1)])
    refine own_iaload X0 hx hZ e0 V_a2_0 (v := (.int y1)) 1 (by decide) rfl (hb hby d3_14) ?_
    show own_Go p e below _ s₁ (mkF m 15 #[.val (.ref a1), .val (.ref a2)] [(.int y1), (.int x1)])
    refine own_icmp X0 hx 80 (hb hby d3_15) (by decide) (by decide) (fun (hc15 : ¬ x1 = y1) => ?_) (fun (hc15 : x1 = y1) => ?_)
    · show own_Go p e below _ s₁ (mkF m 80 #[.val (.ref a1), .val (.ref a2)] [])
      refine own_by (fun t_ k_ => XS.iconst X0.here hx rfl (hb hby d3_80) k_) ?_
      show own_Go p e below _ s₁ (mkF m 81 #[.val (.ref a1), .val (.ref a2)] [(.int (0 : Int32))])
      refine own_retZ X0 hx hlk Bd.returns (by decide) (hb hby d3_81) e0 (by decide) (by decide) ?_
      exact ⟨by simp [hc6, hc15], N0, rfl⟩
    · show own_Go p e below _ s₁ (mkF m 18 #[.val (.ref a1), .val (.ref a2)] [])
      refine own_by (fun t_ k_ => XS.aloadN X0.here hx rfl (hb hby d3_18) rfl rfl k_) ?_
      show own_Go p e below _ s₁ (mkF m 19 #[.val (.ref a1), .val (.ref a2)] [(.ref a1)])
      refine own_by (fun t_ k_ => XS.iconst X0.here hx rfl (hb hby d3_19) k_) ?_
      show own_Go p e below _ s₁ (mkF m 20 #[.val (.ref a1), .val (.ref a2)] [(.int (2 : Int32)), (.ref a1)])
      refine own_iaload X0 hx hZ e0 V_a1_0 (v := (.int x2)) 2 (by decide) rfl (hb hby d3_20) ?_
      show own_Go p e below _ s₁ (mkF m 21 #[.val (.ref a1), .val (.ref a2)] [(.int x2)])
      refine own_by (fun t_ k_ => XS.aloadN X0.here hx rfl (hb hby d3_21) rfl rfl k_) ?_
      show own_Go p e below _ s₁ (mkF m 22 #[.val (.ref a1), .val (.ref a2)] [(.ref a2), (.int x2)])
      refine own_by (fun t_ k_ => XS.iconst X0.here hx rfl (hb hby d3_22) k_) ?_
      show own_Go p e below _ s₁ (mkF m 23 #[.val (.ref a1), .val (.ref a2)] [(.int (2 : Int32)), (.ref a2), (.int x2)])
      refine own_iaload X0 hx hZ e0 V_a2_0 (v := (.int y2)) 2 (by decide) rfl (hb hby d3_23) ?_
      show own_Go p e below _ s₁ (mkF m 24 #[.val (.ref a1), .val (.ref a2)] [(.int y2), (.int x2)])
      refine own_icmp X0 hx 80 (hb hby d3_24) (by decide) (by decide) (fun (hc24 : ¬ x2 = y2) => ?_) (fun (hc24 : x2 = y2) => ?_)
      · show own_Go p e below _ s₁ (mkF m 80 #[.val (.ref a1), .val (.ref a2)] [])
        refine own_by (fun t_ k_ => XS.iconst X0.here hx rfl (hb hby d3_80) k_) ?_
        show own_Go p e below _ s₁ (mkF m 81 #[.val (.ref a1), .val (.ref a2)] [(.int (0 : Int32))])
        refine own_retZ X0 hx hlk Bd.returns (by decide) (hb hby d3_81) e0 (by decide) (by decide) ?_
        exact ⟨by simp [hc6, hc15, hc24], N0, rfl⟩
      · show own_Go p e below _ s₁ (mkF m 27 #[.val (.ref a1), .val (.ref a2)] [])
        refine own_by (fun t_ k_ => XS.aloadN X0.here hx rfl (hb hby d3_27) rfl rfl k_) ?_
        show own_Go p e below _ s₁ (mkF m 28 #[.val (.ref a1), .val (.ref a2)] [(.ref a1)])
        refine own_by (fun t_ k_ => XS.iconst X0.here hx rfl (hb hby d3_28) k_) ?_
        show own_Go p e below _ s₁ (mkF m 29 #[.val (.ref a1), .val (.ref a2)] [(.int (3 : Int32)), (.ref a1)])
        refine own_iaload X0 hx hZ e0 V_a1_0 (v := (.int x3)) 3 (by decide) rfl (hb hby d3_29) ?_
        show own_Go p e below _ s₁ (mkF m 30 #[.val (.ref a1), .val (.ref a2)] [(.int x3)])
        refine own_by (fun t_ k_ => XS.aloadN X0.here hx rfl (hb hby d3_30) rfl rfl k_) ?_
        show own_Go p e below _ s₁ (mkF m 31 #[.val (.ref a1), .val (.ref a2)] [(.ref a2), (.int x3)])
        refine own_by (fun t_ k_ => XS.iconst X0.here hx rfl (hb hby d3_31) k_) ?_
        show own_Go p e below _ s₁ (mkF m 32 #[.val (.ref a1), .val (.ref a2)] [(.int (3 : Int32)), (.ref a2), (.int x3)])
        refine own_iaload X0 hx hZ e0 V_a2_0 (v := (.int y3)) 3 (by decide) rfl (hb hby d3_32) ?_
        show own_Go p e below _ s₁ (mkF m 33 #[.val (.ref a1), .val (.ref a2)] [(.int y3), (.int x3)])
        refine own_icmp X0 hx 80 (hb hby d3_33) (by decide) (by decide) (fun (hc33 : ¬ x3 = y3) => ?_) (fun (hc33 : x3 = y3) => ?_)
        · show own_Go p e below _ s₁ (mkF m 80 #[.val (.ref a1), .val (.ref a2)] [])
          refine own_by (fun t_ k_ => XS.iconst X0.here hx rfl (hb hby d3_80) k_) ?_
          show own_Go p e below _ s₁ (mkF m 81 #[.val (.ref a1), .val (.ref a2)] [(.int (0 : Int32))])
          refine own_retZ X0 hx hlk Bd.returns (by decide) (hb hby d3_81) e0 (by decide) (by decide) ?_
          exact ⟨by simp [hc6, hc15, hc24, hc33], N0, rfl⟩
        · show own_Go p e below _ s₁ (mkF m 36 #[.val (.ref a1), .val (.ref a2)] [])
          refine own_by (fun t_ k_ => XS.aloadN X0.here hx rfl (hb hby d3_36) rfl rfl k_) ?_
          show own_Go p e below _ s₁ (mkF m 37 #[.val (.ref a1), .val (.ref a2)] [(.ref a1)])
          refine own_by (fun t_ k_ => XS.iconst X0.here hx rfl (hb hby d3_37) k_) ?_
          show own_Go p e below _ s₁ (mkF m 38 #[.val (.ref a1), .val (.ref a2)] [(.int (4 : Int32)), (.ref a1)])
          refine own_iaload X0 hx hZ e0 V_a1_0 (v := (.int x4)) 4 (by decide) rfl (hb hby d3_38) ?_
          show own_Go p e below _ s₁ (mkF m 39 #[.val (.ref a1), .val (.ref a2)] [(.int x4)])
          refine own_by (fun t_ k_ => XS.aloadN X0.here hx rfl (hb hby d3_39) rfl rfl k_) ?_
          show own_Go p e below _ s₁ (mkF m 40 #[.val (.ref a1), .val (.ref a2)] [(.ref a2), (.int x4)])
          refine own_by (fun t_ k_ => XS.iconst X0.here hx rfl (hb hby d3_40) k_) ?_
          show own_Go p e below _ s₁ (mkF m 41 #[.val (.ref a1), .val (.ref a2)] [(.int (4 : Int32)), (.ref a2), (.int x4)])
          refine own_iaload X0 hx hZ e0 V_a2_0 (v := (.int y4)) 4 (by decide) rfl (hb hby d3_41) ?_
          show own_Go p e below _ s₁ (mkF m 42 #[.val (.ref a1), .val (.ref a2)] [(.int y4), (.int x4)])
          refine own_icmp X0 hx 80 (hb hby d3_42) (by decide) (by decide) (fun (hc42 : ¬ x4 = y4) => ?_) (fun (hc42 : x4 = y4) => ?_)
          · show own_Go p e below _ s₁ (mkF m 80 #[.val (.ref a1), .val (.ref a2)] [])
            refine own_by (fun t_ k_ => XS.iconst X0.here hx rfl (hb hby d3_80) k_) ?_
            show own_Go p e below _ s₁ (mkF m 81 #[.val (.ref a1), .val (.ref a2)] [(.int (0 : Int32))])
            refine own_retZ X0 hx hlk Bd.returns (by decide) (hb hby d3_81) e0 (by decide) (by decide) ?_
            exact ⟨by simp [hc6, hc15, hc24, hc33, hc42], N0, rfl⟩
          · show own_Go p e below _ s₁ (mkF m 45 #[.val (.ref a1), .val (.ref a2)] [])
            refine own_by (fun t_ k_ => XS.aloadN X0.here hx rfl (hb hby d3_45) rfl rfl k_) ?_
            show own_Go p e below _ s₁ (mkF m 46 #[.val (.ref a1), .val (.ref a2)] [(.ref a1)])
            refine own_by (fun t_ k_ => XS.iconst X0.here hx rfl (hb hby d3_46) k_) ?_
            show own_Go p e below _ s₁ (mkF m 47 #[.val (.ref a1), .val (.ref a2)] [(.int (5 : Int32)), (.ref a1)])
            refine own_iaload X0 hx hZ e0 V_a1_0 (v := (.int x5)) 5 (by decide) rfl (hb hby d3_47) ?_
            show own_Go p e below _ s₁ (mkF m 48 #[.val (.ref a1), .val (.ref a2)] [(.int x5)])
            refine own_by (fun t_ k_ => XS.aloadN X0.here hx rfl (hb hby d3_48) rfl rfl k_) ?_
            show own_Go p e below _ s₁ (mkF m 49 #[.val (.ref a1), .val (.ref a2)] [(.ref a2), (.int x5)])
            refine own_by (fun t_ k_ => XS.iconst X0.here hx rfl (hb hby d3_49) k_) ?_
            show own_Go p e below _ s₁ (mkF m 50 #[.val (.ref a1), .val (.ref a2)] [(.int (5 : Int32)), (.ref a2), (.int x5)])
            refine own_iaload X0 hx hZ e0 V_a2_0 (v := (.int y5)) 5 (by decide) rfl (hb hby d3_50) ?_
            show own_Go p e below _ s₁ (mkF m 51 #[.val (.ref a1), .val (.ref a2)] [(.int y5), (.int x5)])
            refine own_icmp X0 hx 80 (hb hby d3_51) (by decide) (by decide) (fun (hc51 : ¬ x5 = y5) => ?_) (fun (hc51 : x5 = y5) => ?_)
            · show own_Go p e below _ s₁ (mkF m 80 #[.val (.ref a1), .val (.ref a2)] [])
              refine own_by (fun t_ k_ => XS.iconst X0.here hx rfl (hb hby d3_80) k_) ?_
              show own_Go p e below _ s₁ (mkF m 81 #[.val (.ref a1), .val (.ref a2)] [(.int (0 : Int32))])
              refine own_retZ X0 hx hlk Bd.returns (by decide) (hb hby d3_81) e0 (by decide) (by decide) ?_
              exact ⟨by simp [hc6, hc15, hc24, hc33, hc42, hc51], N0, rfl⟩
            · show own_Go p e below _ s₁ (mkF m 54 #[.val (.ref a1), .val (.ref a2)] [])
              refine own_by (fun t_ k_ => XS.aloadN X0.here hx rfl (hb hby d3_54) rfl rfl k_) ?_
              show own_Go p e below _ s₁ (mkF m 55 #[.val (.ref a1), .val (.ref a2)] [(.ref a1)])
              refine own_by (fun t_ k_ => XS.bipush X0.here hx rfl (hb hby d3_55) k_) ?_
              show own_Go p e below _ s₁ (mkF m 57 #[.val (.ref a1), .val (.ref a2)] [(.int (6 : Int32)), (.ref a1)])
              refine own_iaload X0 hx hZ e0 V_a1_0 (v := (.int x6)) 6 (by decide) rfl (hb hby d3_57) ?_
              show own_Go p e below _ s₁ (mkF m 58 #[.val (.ref a1), .val (.ref a2)] [(.int x6)])
              refine own_by (fun t_ k_ => XS.aloadN X0.here hx rfl (hb hby d3_58) rfl rfl k_) ?_
              show own_Go p e below _ s₁ (mkF m 59 #[.val (.ref a1), .val (.ref a2)] [(.ref a2), (.int x6)])
              refine own_by (fun t_ k_ => XS.bipush X0.here hx rfl (hb hby d3_59) k_) ?_
              show own_Go p e below _ s₁ (mkF m 61 #[.val (.ref a1), .val (.ref a2)] [(.int (6 : Int32)), (.ref a2), (.int x6)])
              refine own_iaload X0 hx hZ e0 V_a2_0 (v := (.int y6)) 6 (by decide) rfl (hb hby d3_61) ?_
              show own_Go p e below _ s₁ (mkF m 62 #[.val (.ref a1), .val (.ref a2)] [(.int y6), (.int x6)])
              refine own_icmp X0 hx 80 (hb hby d3_62) (by decide) (by decide) (fun (hc62 : ¬ x6 = y6) => ?_) (fun (hc62 : x6 = y6) => ?_)
              · show own_Go p e below _ s₁ (mkF m 80 #[.val (.ref a1), .val (.ref a2)] [])
                refine own_by (fun t_ k_ => XS.iconst X0.here hx rfl (hb hby d3_80) k_) ?_
                show own_Go p e below _ s₁ (mkF m 81 #[.val (.ref a1), .val (.ref a2)] [(.int (0 : Int32))])
                refine own_retZ X0 hx hlk Bd.returns (by decide) (hb hby d3_81) e0 (by decide) (by decide) ?_
                exact ⟨by simp [hc6, hc15, hc24, hc33, hc42, hc51, hc62], N0, rfl⟩
              · show own_Go p e below _ s₁ (mkF m 65 #[.val (.ref a1), .val (.ref a2)] [])
                refine own_by (fun t_ k_ => XS.aloadN X0.here hx rfl (hb hby d3_65) rfl rfl k_) ?_
                show own_Go p e below _ s₁ (mkF m 66 #[.val (.ref a1), .val (.ref a2)] [(.ref a1)])
                refine own_by (fun t_ k_ => XS.bipush X0.here hx rfl (hb hby d3_66) k_) ?_
                show own_Go p e below _ s₁ (mkF m 68 #[.val (.ref a1), .val (.ref a2)] [(.int (7 : Int32)), (.ref a1)])
                refine own_iaload X0 hx hZ e0 V_a1_0 (v := (.int x7)) 7 (by decide) rfl (hb hby d3_68) ?_
                show own_Go p e below _ s₁ (mkF m 69 #[.val (.ref a1), .val (.ref a2)] [(.int x7)])
                refine own_by (fun t_ k_ => XS.aloadN X0.here hx rfl (hb hby d3_69) rfl rfl k_) ?_
                show own_Go p e below _ s₁ (mkF m 70 #[.val (.ref a1), .val (.ref a2)] [(.ref a2), (.int x7)])
                refine own_by (fun t_ k_ => XS.bipush X0.here hx rfl (hb hby d3_70) k_) ?_
                show own_Go p e below _ s₁ (mkF m 72 #[.val (.ref a1), .val (.ref a2)] [(.int (7 : Int32)), (.ref a2), (.int x7)])
                refine own_iaload X0 hx hZ e0 V_a2_0 (v := (.int y7)) 7 (by decide) rfl (hb hby d3_72) ?_
                show own_Go p e below _ s₁ (mkF m 73 #[.val (.ref a1), .val (.ref a2)] [(.int y7), (.int x7)])
                refine own_icmp X0 hx 80 (hb hby d3_73) (by decide) (by decide) (fun (hc73 : ¬ x7 = y7) => ?_) (fun (hc73 : x7 = y7) => ?_)
                · show own_Go p e below _ s₁ (mkF m 80 #[.val (.ref a1), .val (.ref a2)] [])
                  refine own_by (fun t_ k_ => XS.iconst X0.here hx rfl (hb hby d3_80) k_) ?_
                  show own_Go p e below _ s₁ (mkF m 81 #[.val (.ref a1), .val (.ref a2)] [(.int (0 : Int32))])
                  refine own_retZ X0 hx hlk Bd.returns (by decide) (hb hby d3_81) e0 (by decide) (by decide) ?_
                  exact ⟨by simp [hc6, hc15, hc24, hc33, hc42, hc51, hc62, hc73], N0, rfl⟩
                · show own_Go p e below _ s₁ (mkF m 76 #[.val (.ref a1), .val (.ref a2)] [])
                  refine own_by (fun t_ k_ => XS.iconst X0.here hx rfl (hb hby d3_76) k_) ?_
                  show own_Go p e below _ s₁ (mkF m 77 #[.val (.ref a1), .val (.ref a2)] [(.int (1 : Int32))])
                  refine own_by (fun t_ k_ => XS.goto X0.here hx rfl (pc0 := 77) (pc' := 81) rfl (hb hby d3_77) (by decide) (by decide) k_) ?_
                  show own_Go p e below _ s₁ (mkF m 81 #[.val (.ref a1), .val (.ref a2)] [(.int (1 : Int32))])
                  refine own_retZ X0 hx hlk Bd.returns (by decide) (hb hby d3_81) e0 (by decide) (by decide) ?_
                  exact ⟨by simp [hc6, hc15, hc24, hc33, hc42, hc51, hc62, hc73], N0, rfl⟩
theorem own_or_and (a b c : Int32) : ((a ||| b) &&& c = 0) ↔ (a &&& c = 0 ∧ b &&& c = 0) := by
  have e : (a ||| b) &&& c = (a &&& c) ||| (b &&& c) := by
    apply Int32.toBitVec_inj.mp
    simp only [Int32.toBitVec_and, Int32.toBitVec_or]
    ext i hi; simp [Bool.and_or_distrib_right]
  rw [e]
  constructor
  · intro q
    have q' := congrArg Int32.toBitVec q
    simp only [Int32.toBitVec_or] at q'
    have z : (0 : Int32).toBitVec = 0#32 := rfl
    rw [z] at q'
    constructor
    · apply Int32.toBitVec_inj.mp
      rw [z]
      ext i hi
      have := congrArg (fun t => t.getLsbD i) q'
      simp at this ⊢
      exact this.1
    · apply Int32.toBitVec_inj.mp
      rw [z]
      ext i hi
      have := congrArg (fun t => t.getLsbD i) q'
      simp at this ⊢
      exact this.2
  · rintro ⟨q1, q2⟩; rw [q1, q2]; decide
theorem own_mg_step {u : Int32} {P R : Prop} [Decidable P] [Decidable R] {As Bs : List Int32} (hA : ∀ x ∈ As, u < x) (hB : ∀ x ∈ Bs, u < x) : own_mg ((if P then [] else [u]) ++ As) ((if R then [] else [u]) ++ Bs) = (if P ∧ R then [] else [u]) ++ own_mg As Bs := by
  have lt_irr : ¬ u < u := by rw [Int32.lt_iff_toInt_lt]; omega
  by_cases hp : P <;> by_cases hr : R <;> simp only [hp, hr, and_self, and_true, true_and, and_false, false_and, if_true, if_false, List.nil_append, List.cons_append]
  · cases As with
    | nil => rw [own_mg_nil, own_mg_nil]
    | cons a As =>
      have q := hA a (List.mem_cons_self ..)
      have q' : ¬ a < u := by rw [Int32.lt_iff_toInt_lt] at q ⊢; omega
      rw [own_mg_cons, if_neg q', if_pos q]
  · cases Bs with
    | nil => rw [own_mg_nil', own_mg_nil']
    | cons b Bs =>
      have q := hB b (List.mem_cons_self ..)
      rw [own_mg_cons, if_pos q]
  · rw [own_mg_cons, if_neg lt_irr, if_neg lt_irr]
theorem own_sel_mem {m u0 u1 u2 u3 x : Int32} (h : x ∈ own_sel m u0 u1 u2 u3) : x = u0 ∨ x = u1 ∨ x = u2 ∨ x = u3 := by
  simp only [own_sel, List.mem_append] at h
  rcases h with h | h | h | h <;> (split at h <;> simp at h <;> simp [h])
theorem own_union {u0 u1 u2 u3 : Int32} (h0 : u0 < u1) (h1 : u1 < u2) (h2 : u2 < u3) (a b : Int32) : own_mg (own_sel a u0 u1 u2 u3) (own_sel b u0 u1 u2 u3) = own_sel (a ||| b) u0 u1 u2 u3 := by
  have t02 : u0 < u2 := by rw [Int32.lt_iff_toInt_lt] at *; omega
  have t03 : u0 < u3 := by rw [Int32.lt_iff_toInt_lt] at *; omega
  have t13 : u1 < u3 := by rw [Int32.lt_iff_toInt_lt] at *; omega
  have m3 : ∀ (c : Int32) x, x ∈ (if c &&& 8 = 0 then ([] : List Int32) else [u3]) → x = u3 := by intro c x q; split at q <;> simp at q; exact q
  have m2 : ∀ (c : Int32) x, x ∈ ((if c &&& 4 = 0 then ([] : List Int32) else [u2]) ++ (if c &&& 8 = 0 then [] else [u3])) → x = u2 ∨ x = u3 := by
    intro c x q; rcases List.mem_append.mp q with q | q
    · split at q <;> simp at q; exact Or.inl q
    · exact Or.inr (m3 c x q)
  have m1 : ∀ (c : Int32) x, x ∈ ((if c &&& 2 = 0 then ([] : List Int32) else [u1]) ++ ((if c &&& 4 = 0 then ([] : List Int32) else [u2]) ++ (if c &&& 8 = 0 then [] else [u3]))) → x = u1 ∨ x = u2 ∨ x = u3 := by
    intro c x q; rcases List.mem_append.mp q with q | q
    · split at q <;> simp at q; exact Or.inl q
    · exact Or.inr (m2 c x q)
  have f1 : ∀ (c : Int32) x, x ∈ ((if c &&& 2 = 0 then ([] : List Int32) else [u1]) ++ ((if c &&& 4 = 0 then ([] : List Int32) else [u2]) ++ (if c &&& 8 = 0 then [] else [u3]))) → u0 < x := by
    intro c x q; rcases m1 c x q with rfl | rfl | rfl <;> assumption
  have f2 : ∀ (c : Int32) x, x ∈ ((if c &&& 4 = 0 then ([] : List Int32) else [u2]) ++ (if c &&& 8 = 0 then [] else [u3])) → u1 < x := by
    intro c x q; rcases m2 c x q with rfl | rfl <;> assumption
  have f3 : ∀ (c : Int32) x, x ∈ (if c &&& 8 = 0 then ([] : List Int32) else [u3]) → u2 < x := by
    intro c x q; rcases m3 c x q with rfl; assumption
  have last : own_mg (if a &&& 8 = 0 then [] else [u3]) (if b &&& 8 = 0 then [] else [u3]) = if a &&& 8 = 0 ∧ b &&& 8 = 0 then [] else [u3] := by
    have q := own_mg_step (u := u3) (P := a &&& 8 = 0) (R := b &&& 8 = 0) (As := []) (Bs := []) (by simp) (by simp)
    simpa [own_mg_nil] using q
  unfold own_sel
  rw [own_mg_step (f1 a) (f1 b), own_mg_step (f2 a) (f2 b), own_mg_step (f3 a) (f3 b), last]
  simp only [own_or_and]
theorem own_sel_len (m u0 u1 u2 u3 : Int32) : (own_sel m u0 u1 u2 u3).length ≤ 4 := by
  unfold own_sel
  simp only [List.length_append]
  have q : ∀ (P : Prop) [Decidable P] (u : Int32), (if P then ([] : List Int32) else [u]).length ≤ 1 := by intro P _ u; split <;> simp
  have := q (m &&& 1 = 0) u0; have := q (m &&& 2 = 0) u1; have := q (m &&& 4 = 0) u2; have := q (m &&& 8 = 0) u3
  omega
theorem own_m3 (x : Int32) : ∃ i : Nat, i ≤ 3 ∧ (x &&& 3).toInt = (i : Int) := by
  have e1 : (x &&& 3).toInt = x.toInt % 2 ^ 2 := Jvm.Kit.i32_mask x 3 (k := 2) (by decide) (by decide)
  exact ⟨(x &&& 3).toInt.toNat, by omega, by omega⟩
def own_putI (xs : List Int32) : Nat → List Int32 → List Int32
  | _, [] => xs
  | i, u :: us => own_putI (xs.set i u) (i + 1) us
theorem own_putI_map : ∀ (us xs : List Int32) (i : Nat), own_put (xs.map Value.int) i us = (own_putI xs i us).map Value.int
  | [], xs, i => rfl
  | u :: us, xs, i => by rw [own_put, own_putI, ← own_putI_map us, List.map_set]
theorem own_putI_len : ∀ (us xs : List Int32) (i : Nat), (own_putI xs i us).length = xs.length
  | [], xs, i => rfl
  | u :: us, xs, i => by rw [own_putI, own_putI_len us]; simp
theorem own_eight (k : Int32) (us : List Int32) : ∃ x0 x1 x2 x3 x4 x5 x6 x7 : Int32, own_put [.int k, .int k, .int k, .int k, .int k, .int k, .int k, .int k] 0 us = [.int x0, .int x1, .int x2, .int x3, .int x4, .int x5, .int x6, .int x7] := by
  have e := own_putI_map us [k, k, k, k, k, k, k, k] 0
  have q := own_putI_len us [k, k, k, k, k, k, k, k] 0
  obtain ⟨xs, hx⟩ : ∃ xs, xs = own_putI [k, k, k, k, k, k, k, k] 0 us := ⟨_, rfl⟩
  rw [← hx] at e q
  match xs, q with
  | [x0, x1, x2, x3, x4, x5, x6, x7], _ => exact ⟨x0, x1, x2, x3, x4, x5, x6, x7, e⟩
theorem ef_0 (m : MethodId) (p1 : Int32) (p2 : Int32) (p3 : Int32) (p4 : Int32) : entryFrame m #[(.int p1), (.int p2), (.int p3), (.int p4)] maxLocals = mkF m 0 #[.val (.int p1), .val (.int p2), .val (.int p3), .val (.int p4), .unset, .unset, .unset, .unset, .unset, .unset, .unset, .unset, .unset, .unset, .unset, .unset, .unset, .unset, .unset, .unset, .unset] [] := by first | (simp [entryFrame, mkF, argsToLocals, Value.category, maxLocals]; done) | rfl
set_option maxRecDepth 65536 in
set_option maxHeartbeats 40000000 in
theorem rm0 (l : Launch) (Z : State) (a0 : Array Value) (hw : ∀ d ∈ tables_1, d.before a0 Z = true) (ws : List Jvm.Cond) (p1 : Int32) (p2 : Int32) (p3 : Int32) (p4 : Int32) (h0 : Heap) (n0 : Nat) (Z0 : n0 ≤ h0.size) :
    MetFree l x (head1 (Jvm.Cond.code x code maxLocals ret :: ws) room_1) (fun a U => a = #[(.int p1), (.int p2), (.int p3), (.int p4)] ∧ Z.Warmed39 U.vm ∧ U.heap = h0) (fun _ _ _ _ _ => True) (fun _ U o U' => ∃ v L, o = .returned v ∧ Q0 n0 v U'.heap L ∧ FrameEnd U o U' L room_1.cells room_1.slots) := by
  refine MetFree.of_bodySF (plainFor_of_name pn_0) hisR ?_
  intro p e s m args below meth c s₁ Bd hml0 hP hK
  obtain ⟨rfl, hZ, hh⟩ := hP
  have hx := Bd.exec
  have hby := Bd.bytes
  have hml : c.maxLocals = 21 := hml0
  have hown : s.vm.findClass "com/example/valuation/valuation/provenance/MonomialUnionPinLaw" = some m.cls := findClass_of_methodNamed Bd.named
  have hnm := (name_of_methodNamed Bd.named Bd.method).1
  have hlk : meth.locks = false := BodyLoose.notSynchronized Bd
  have X0 : Stand p l e room_1 s m #[(.int p1), (.int p2), (.int p3), (.int p4)] below meth c s₁ [] 0 0 := Stand.of_body Bd
  have e0 : s₁.heap = h0 := by rw [← hh, Bd.state]; rfl
  have N0 := Fr.nil n0
  refine own_start (Q := Q0 n0) (ef_0 m p1 p2 p3 p4) ?_
  have J25 : ∀ (mm : Int32), -2147483648 < mm.toInt → mm.toInt < 2147483646 → own_Go p e below (own_Fin s (Q0 n0) room_1.cells room_1.slots) s₁ (mkF m 25 #[.val (.int p1), .val (.int p2), .val (.int p3), .val (.int p4), .val (.int mm), .unset, .unset, .unset, .unset, .unset, .unset, .unset, .unset, .unset, .unset, .unset, .unset, .unset, .unset, .unset, .unset] []) := by
    intro mm hm1 hm2
    show own_Go p e below _ s₁ (mkF m 25 #[.val (.int p1), .val (.int p2), .val (.int p3), .val (.int p4), .val (.int mm), .unset, .unset, .unset, .unset, .unset, .unset, .unset, .unset, .unset, .unset, .unset, .unset, .unset, .unset, .unset, .unset] [])
    refine own_by (fun t_ k_ => X0.ldcInt hx hown (mvT hZ (hw _ (List.mem_of_getElem? (i := 0) rfl))) (g := (mkF m 25 #[.val (.int p1), .val (.int p2), .val (.int p3), .val (.int p4), .val (.int mm), .unset, .unset, .unset, .unset, .unset, .unset, .unset, .unset, .unset, .unset, .unset, .unset, .unset, .unset, .unset, .unset] [])) rfl (hb hby at_25) _ k_) ?_
    show own_Go p e below _ s₁ (mkF m 27 #[.val (.int p1), .val (.int p2), .val (.int p3), .val (.int p4), .val (.int mm), .unset, .unset, .unset, .unset, .unset, .unset, .unset, .unset, .unset, .unset, .unset, .unset, .unset, .unset, .unset, .unset] [(.int (-2147483648 : Int32))])
    refine own_by (fun t_ k_ => XS.istore X0.here hx rfl (hb hby at_27) rfl (l' := #[.val (.int p1), .val (.int p2), .val (.int p3), .val (.int p4), .val (.int mm), .val (.int (-2147483648 : Int32)), .unset, .unset, .unset, .unset, .unset, .unset, .unset, .unset, .unset, .unset, .unset, .unset, .unset, .unset, .unset]) rfl k_) ?_
    show own_Go p e below _ s₁ (mkF m 29 #[.val (.int p1), .val (.int p2), .val (.int p3), .val (.int p4), .val (.int mm), .val (.int (-2147483648 : Int32)), .unset, .unset, .unset, .unset, .unset, .unset, .unset, .unset, .unset, .unset, .unset, .unset, .unset, .unset, .unset] [])
    generalize h_u0 : (-2147483648 : Int32) = u0
    show own_Go p e below _ s₁ (mkF m 29 #[.val (.int p1), .val (.int p2), .val (.int p3), .val (.int p4), .val (.int mm), .val (.int u0), .unset, .unset, .unset, .unset, .unset, .unset, .unset, .unset, .unset, .unset, .unset, .unset, .unset, .unset, .unset] [])
    refine own_by (fun t_ k_ => XS.iload X0.here hx rfl (hb hby at_29) rfl k_) ?_
    show own_Go p e below _ s₁ (mkF m 31 #[.val (.int p1), .val (.int p2), .val (.int p3), .val (.int p4), .val (.int mm), .val (.int u0), .unset, .unset, .unset, .unset, .unset, .unset, .unset, .unset, .unset, .unset, .unset, .unset, .unset, .unset, .unset] [(.int mm)])
    refine own_by (fun t_ k_ => XS.istore X0.here hx rfl (hb hby at_31) rfl (l' := #[.val (.int p1), .val (.int p2), .val (.int p3), .val (.int p4), .val (.int mm), .val (.int u0), .val (.int mm), .unset, .unset, .unset, .unset, .unset, .unset, .unset, .unset, .unset, .unset, .unset, .unset, .unset, .unset]) rfl k_) ?_
    show own_Go p e below _ s₁ (mkF m 33 #[.val (.int p1), .val (.int p2), .val (.int p3), .val (.int p4), .val (.int mm), .val (.int u0), .val (.int mm), .unset, .unset, .unset, .unset, .unset, .unset, .unset, .unset, .unset, .unset, .unset, .unset, .unset, .unset] [])
    generalize h_u1 : mm = u1
    show own_Go p e below _ s₁ (mkF m 33 #[.val (.int p1), .val (.int p2), .val (.int p3), .val (.int p4), .val (.int u1), .val (.int u0), .val (.int u1), .unset, .unset, .unset, .unset, .unset, .unset, .unset, .unset, .unset, .unset, .unset, .unset, .unset, .unset] [])
    refine own_by (fun t_ k_ => XS.iload X0.here hx rfl (hb hby at_33) rfl k_) ?_
    show own_Go p e below _ s₁ (mkF m 35 #[.val (.int p1), .val (.int p2), .val (.int p3), .val (.int p4), .val (.int u1), .val (.int u0), .val (.int u1), .unset, .unset, .unset, .unset, .unset, .unset, .unset, .unset, .unset, .unset, .unset, .unset, .unset, .unset] [(.int u1)])
    refine own_by (fun t_ k_ => XS.iconst X0.here hx rfl (hb hby at_35) k_) ?_
    show own_Go p e below _ s₁ (mkF m 36 #[.val (.int p1), .val (.int p2), .val (.int p3), .val (.int p4), .val (.int u1), .val (.int u0), .val (.int u1), .unset, .unset, .unset, .unset, .unset, .unset, .unset, .unset, .unset, .unset, .unset, .unset, .unset, .unset] [(.int (1 : Int32)), (.int u1)])
    refine own_by (fun t_ k_ => XS.iadd X0.here hx rfl (hb hby at_36) rfl k_) ?_
    show own_Go p e below _ s₁ (mkF m 37 #[.val (.int p1), .val (.int p2), .val (.int p3), .val (.int p4), .val (.int u1), .val (.int u0), .val (.int u1), .unset, .unset, .unset, .unset, .unset, .unset, .unset, .unset, .unset, .unset, .unset, .unset, .unset, .unset] [(.int (u1 + (1 : Int32)))])
    refine own_by (fun t_ k_ => XS.istore X0.here hx rfl (hb hby at_37) rfl (l' := #[.val (.int p1), .val (.int p2), .val (.int p3), .val (.int p4), .val (.int u1), .val (.int u0), .val (.int u1), .val (.int (u1 + (1 : Int32))), .unset, .unset, .unset, .unset, .unset, .unset, .unset, .unset, .unset, .unset, .unset, .unset, .unset]) rfl k_) ?_
    show own_Go p e below _ s₁ (mkF m 39 #[.val (.int p1), .val (.int p2), .val (.int p3), .val (.int p4), .val (.int u1), .val (.int u0), .val (.int u1), .val (.int (u1 + (1 : Int32))), .unset, .unset, .unset, .unset, .unset, .unset, .unset, .unset, .unset, .unset, .unset, .unset, .unset] [])
    generalize h_u2 : (u1 + (1 : Int32)) = u2
    show own_Go p e below _ s₁ (mkF m 39 #[.val (.int p1), .val (.int p2), .val (.int p3), .val (.int p4), .val (.int u1), .val (.int u0), .val (.int u1), .val (.int u2), .unset, .unset, .unset, .unset, .unset, .unset, .unset, .unset, .unset, .unset, .unset, .unset, .unset] [])
    refine own_by (fun t_ k_ => X0.ldcInt hx hown (mvT hZ (hw _ (List.mem_of_getElem? (i := 2) rfl))) (g := (mkF m 39 #[.val (.int p1), .val (.int p2), .val (.int p3), .val (.int p4), .val (.int u1), .val (.int u0), .val (.int u1), .val (.int u2), .unset, .unset, .unset, .unset, .unset, .unset, .unset, .unset, .unset, .unset, .unset, .unset, .unset] [])) rfl (hb hby at_39) _ k_) ?_
    show own_Go p e below _ s₁ (mkF m 41 #[.val (.int p1), .val (.int p2), .val (.int p3), .val (.int p4), .val (.int u1), .val (.int u0), .val (.int u1), .val (.int u2), .unset, .unset, .unset, .unset, .unset, .unset, .unset, .unset, .unset, .unset, .unset, .unset, .unset] [(.int (2147483647 : Int32))])
    refine own_by (fun t_ k_ => XS.istore X0.here hx rfl (hb hby at_41) rfl (l' := #[.val (.int p1), .val (.int p2), .val (.int p3), .val (.int p4), .val (.int u1), .val (.int u0), .val (.int u1), .val (.int u2), .val (.int (2147483647 : Int32)), .unset, .unset, .unset, .unset, .unset, .unset, .unset, .unset, .unset, .unset, .unset, .unset]) rfl k_) ?_
    show own_Go p e below _ s₁ (mkF m 43 #[.val (.int p1), .val (.int p2), .val (.int p3), .val (.int p4), .val (.int u1), .val (.int u0), .val (.int u1), .val (.int u2), .val (.int (2147483647 : Int32)), .unset, .unset, .unset, .unset, .unset, .unset, .unset, .unset, .unset, .unset, .unset, .unset] [])
    generalize h_u3 : (2147483647 : Int32) = u3
    have k0 : (-2147483648 : Int32).toInt = -2147483648 := by decide
    have k1 : (1 : Int32).toInt = 1 := by decide
    have k2 : (2147483647 : Int32).toInt = 2147483647 := by decide
    have hm1 : -2147483648 < u1.toInt := h_u1 ▸ hm1
    have hm2 : u1.toInt < 2147483646 := h_u1 ▸ hm2
    have e1 : (u1 + 1).toInt = u1.toInt + (1 : Int32).toInt := Jvm.Kit.i32_add (by omega) (by omega)
    have hu0 : u0 < u1 := by rw [← h_u0, Int32.lt_iff_toInt_lt]; omega
    have hu1 : u1 < u2 := by rw [← h_u2, Int32.lt_iff_toInt_lt]; omega
    have hu2 : u2 < u3 := by rw [← h_u2, ← h_u3, Int32.lt_iff_toInt_lt]; omega
    show own_Go p e below _ s₁ (mkF m 43 #[.val (.int p1), .val (.int p2), .val (.int p3), .val (.int p4), .val (.int u1), .val (.int u0), .val (.int u1), .val (.int u2), .val (.int u3), .unset, .unset, .unset, .unset, .unset, .unset, .unset, .unset, .unset, .unset, .unset, .unset] [])
    refine own_by (fun t_ k_ => XS.iloadN X0.here hx rfl (hb hby at_43) rfl k_) ?_
    show own_Go p e below _ s₁ (mkF m 44 #[.val (.int p1), .val (.int p2), .val (.int p3), .val (.int p4), .val (.int u1), .val (.int u0), .val (.int u1), .val (.int u2), .val (.int u3), .unset, .unset, .unset, .unset, .unset, .unset, .unset, .unset, .unset, .unset, .unset, .unset] [(.int p2)])
    refine own_by (fun t_ k_ => XS.bipush X0.here hx rfl (hb hby at_44) k_) ?_
    show own_Go p e below _ s₁ (mkF m 46 #[.val (.int p1), .val (.int p2), .val (.int p3), .val (.int p4), .val (.int u1), .val (.int u0), .val (.int u1), .val (.int u2), .val (.int u3), .unset, .unset, .unset, .unset, .unset, .unset, .unset, .unset, .unset, .unset, .unset, .unset] [(.int (15 : Int32)), (.int p2)])
    refine own_by (fun t_ k_ => XS.iand X0.here hx rfl (hb hby at_46) rfl k_) ?_
    show own_Go p e below _ s₁ (mkF m 47 #[.val (.int p1), .val (.int p2), .val (.int p3), .val (.int p4), .val (.int u1), .val (.int u0), .val (.int u1), .val (.int u2), .val (.int u3), .unset, .unset, .unset, .unset, .unset, .unset, .unset, .unset, .unset, .unset, .unset, .unset] [(.int (p2 &&& (15 : Int32)))])
    refine own_by (fun t_ k_ => XS.istore X0.here hx rfl (hb hby at_47) rfl (l' := #[.val (.int p1), .val (.int p2), .val (.int p3), .val (.int p4), .val (.int u1), .val (.int u0), .val (.int u1), .val (.int u2), .val (.int u3), .val (.int (p2 &&& (15 : Int32))), .unset, .unset, .unset, .unset, .unset, .unset, .unset, .unset, .unset, .unset, .unset]) rfl k_) ?_
    show own_Go p e below _ s₁ (mkF m 49 #[.val (.int p1), .val (.int p2), .val (.int p3), .val (.int p4), .val (.int u1), .val (.int u0), .val (.int u1), .val (.int u2), .val (.int u3), .val (.int (p2 &&& (15 : Int32))), .unset, .unset, .unset, .unset, .unset, .unset, .unset, .unset, .unset, .unset, .unset] [])
    generalize h_ma : (p2 &&& (15 : Int32)) = ma
    show own_Go p e below _ s₁ (mkF m 49 #[.val (.int p1), .val (.int p2), .val (.int p3), .val (.int p4), .val (.int u1), .val (.int u0), .val (.int u1), .val (.int u2), .val (.int u3), .val (.int ma), .unset, .unset, .unset, .unset, .unset, .unset, .unset, .unset, .unset, .unset, .unset] [])
    refine own_by (fun t_ k_ => XS.iloadN X0.here hx rfl (hb hby at_49) rfl k_) ?_
    show own_Go p e below _ s₁ (mkF m 50 #[.val (.int p1), .val (.int p2), .val (.int p3), .val (.int p4), .val (.int u1), .val (.int u0), .val (.int u1), .val (.int u2), .val (.int u3), .val (.int ma), .unset, .unset, .unset, .unset, .unset, .unset, .unset, .unset, .unset, .unset, .unset] [(.int p2)])
    refine own_by (fun t_ k_ => XS.iconst X0.here hx rfl (hb hby at_50) k_) ?_
    show own_Go p e below _ s₁ (mkF m 51 #[.val (.int p1), .val (.int p2), .val (.int p3), .val (.int p4), .val (.int u1), .val (.int u0), .val (.int u1), .val (.int u2), .val (.int u3), .val (.int ma), .unset, .unset, .unset, .unset, .unset, .unset, .unset, .unset, .unset, .unset, .unset] [(.int (4 : Int32)), (.int p2)])
    refine own_by (fun t_ k_ => XT.ishr X0.here hx rfl (hb hby at_51) rfl k_) ?_
    show own_Go p e below _ s₁ (mkF m 52 #[.val (.int p1), .val (.int p2), .val (.int p3), .val (.int p4), .val (.int u1), .val (.int u0), .val (.int u1), .val (.int u2), .val (.int u3), .val (.int ma), .unset, .unset, .unset, .unset, .unset, .unset, .unset, .unset, .unset, .unset, .unset] [(.int (p2 >>> ((4 : Int32) &&& 31)))])
    refine own_by (fun t_ k_ => XS.bipush X0.here hx rfl (hb hby at_52) k_) ?_
    show own_Go p e below _ s₁ (mkF m 54 #[.val (.int p1), .val (.int p2), .val (.int p3), .val (.int p4), .val (.int u1), .val (.int u0), .val (.int u1), .val (.int u2), .val (.int u3), .val (.int ma), .unset, .unset, .unset, .unset, .unset, .unset, .unset, .unset, .unset, .unset, .unset] [(.int (15 : Int32)), (.int (p2 >>> ((4 : Int32) &&& 31)))])
    refine own_by (fun t_ k_ => XS.iand X0.here hx rfl (hb hby at_54) rfl k_) ?_
    show own_Go p e below _ s₁ (mkF m 55 #[.val (.int p1), .val (.int p2), .val (.int p3), .val (.int p4), .val (.int u1), .val (.int u0), .val (.int u1), .val (.int u2), .val (.int u3), .val (.int ma), .unset, .unset, .unset, .unset, .unset, .unset, .unset, .unset, .unset, .unset, .unset] [(.int ((p2 >>> ((4 : Int32) &&& 31)) &&& (15 : Int32)))])
    refine own_by (fun t_ k_ => XS.istore X0.here hx rfl (hb hby at_55) rfl (l' := #[.val (.int p1), .val (.int p2), .val (.int p3), .val (.int p4), .val (.int u1), .val (.int u0), .val (.int u1), .val (.int u2), .val (.int u3), .val (.int ma), .val (.int ((p2 >>> ((4 : Int32) &&& 31)) &&& (15 : Int32))), .unset, .unset, .unset, .unset, .unset, .unset, .unset, .unset, .unset, .unset]) rfl k_) ?_
    show own_Go p e below _ s₁ (mkF m 57 #[.val (.int p1), .val (.int p2), .val (.int p3), .val (.int p4), .val (.int u1), .val (.int u0), .val (.int u1), .val (.int u2), .val (.int u3), .val (.int ma), .val (.int ((p2 >>> ((4 : Int32) &&& 31)) &&& (15 : Int32))), .unset, .unset, .unset, .unset, .unset, .unset, .unset, .unset, .unset, .unset] [])
    generalize h_mb : ((p2 >>> ((4 : Int32) &&& 31)) &&& (15 : Int32)) = mb
    show own_Go p e below _ s₁ (mkF m 57 #[.val (.int p1), .val (.int p2), .val (.int p3), .val (.int p4), .val (.int u1), .val (.int u0), .val (.int u1), .val (.int u2), .val (.int u3), .val (.int ma), .val (.int mb), .unset, .unset, .unset, .unset, .unset, .unset, .unset, .unset, .unset, .unset] [])
    refine own_by (fun t_ k_ => XS.iloadN X0.here hx rfl (hb hby at_57) rfl k_) ?_
    show own_Go p e below _ s₁ (mkF m 58 #[.val (.int p1), .val (.int p2), .val (.int p3), .val (.int p4), .val (.int u1), .val (.int u0), .val (.int u1), .val (.int u2), .val (.int u3), .val (.int ma), .val (.int mb), .unset, .unset, .unset, .unset, .unset, .unset, .unset, .unset, .unset, .unset] [(.int p2)])
    refine own_by (fun t_ k_ => XS.bipush X0.here hx rfl (hb hby at_58) k_) ?_
    show own_Go p e below _ s₁ (mkF m 60 #[.val (.int p1), .val (.int p2), .val (.int p3), .val (.int p4), .val (.int u1), .val (.int u0), .val (.int u1), .val (.int u2), .val (.int u3), .val (.int ma), .val (.int mb), .unset, .unset, .unset, .unset, .unset, .unset, .unset, .unset, .unset, .unset] [(.int (8 : Int32)), (.int p2)])
    refine own_by (fun t_ k_ => XT.ishr X0.here hx rfl (hb hby at_60) rfl k_) ?_
    show own_Go p e below _ s₁ (mkF m 61 #[.val (.int p1), .val (.int p2), .val (.int p3), .val (.int p4), .val (.int u1), .val (.int u0), .val (.int u1), .val (.int u2), .val (.int u3), .val (.int ma), .val (.int mb), .unset, .unset, .unset, .unset, .unset, .unset, .unset, .unset, .unset, .unset] [(.int (p2 >>> ((8 : Int32) &&& 31)))])
    refine own_by (fun t_ k_ => XS.iconst X0.here hx rfl (hb hby at_61) k_) ?_
    show own_Go p e below _ s₁ (mkF m 62 #[.val (.int p1), .val (.int p2), .val (.int p3), .val (.int p4), .val (.int u1), .val (.int u0), .val (.int u1), .val (.int u2), .val (.int u3), .val (.int ma), .val (.int mb), .unset, .unset, .unset, .unset, .unset, .unset, .unset, .unset, .unset, .unset] [(.int (3 : Int32)), (.int (p2 >>> ((8 : Int32) &&& 31)))])
    refine own_by (fun t_ k_ => XS.iand X0.here hx rfl (hb hby at_62) rfl k_) ?_
    show own_Go p e below _ s₁ (mkF m 63 #[.val (.int p1), .val (.int p2), .val (.int p3), .val (.int p4), .val (.int u1), .val (.int u0), .val (.int u1), .val (.int u2), .val (.int u3), .val (.int ma), .val (.int mb), .unset, .unset, .unset, .unset, .unset, .unset, .unset, .unset, .unset, .unset] [(.int ((p2 >>> ((8 : Int32) &&& 31)) &&& (3 : Int32)))])
    refine own_by (fun t_ k_ => XS.istore X0.here hx rfl (hb hby at_63) rfl (l' := #[.val (.int p1), .val (.int p2), .val (.int p3), .val (.int p4), .val (.int u1), .val (.int u0), .val (.int u1), .val (.int u2), .val (.int u3), .val (.int ma), .val (.int mb), .val (.int ((p2 >>> ((8 : Int32) &&& 31)) &&& (3 : Int32))), .unset, .unset, .unset, .unset, .unset, .unset, .unset, .unset, .unset]) rfl k_) ?_
    show own_Go p e below _ s₁ (mkF m 65 #[.val (.int p1), .val (.int p2), .val (.int p3), .val (.int p4), .val (.int u1), .val (.int u0), .val (.int u1), .val (.int u2), .val (.int u3), .val (.int ma), .val (.int mb), .val (.int ((p2 >>> ((8 : Int32) &&& 31)) &&& (3 : Int32))), .unset, .unset, .unset, .unset, .unset, .unset, .unset, .unset, .unset] [])
    generalize h_af : ((p2 >>> ((8 : Int32) &&& 31)) &&& (3 : Int32)) = af
    show own_Go p e below _ s₁ (mkF m 65 #[.val (.int p1), .val (.int p2), .val (.int p3), .val (.int p4), .val (.int u1), .val (.int u0), .val (.int u1), .val (.int u2), .val (.int u3), .val (.int ma), .val (.int mb), .val (.int af), .unset, .unset, .unset, .unset, .unset, .unset, .unset, .unset, .unset] [])
    refine own_by (fun t_ k_ => XS.iloadN X0.here hx rfl (hb hby at_65) rfl k_) ?_
    show own_Go p e below _ s₁ (mkF m 66 #[.val (.int p1), .val (.int p2), .val (.int p3), .val (.int p4), .val (.int u1), .val (.int u0), .val (.int u1), .val (.int u2), .val (.int u3), .val (.int ma), .val (.int mb), .val (.int af), .unset, .unset, .unset, .unset, .unset, .unset, .unset, .unset, .unset] [(.int p2)])
    refine own_by (fun t_ k_ => XS.bipush X0.here hx rfl (hb hby at_66) k_) ?_
    show own_Go p e below _ s₁ (mkF m 68 #[.val (.int p1), .val (.int p2), .val (.int p3), .val (.int p4), .val (.int u1), .val (.int u0), .val (.int u1), .val (.int u2), .val (.int u3), .val (.int ma), .val (.int mb), .val (.int af), .unset, .unset, .unset, .unset, .unset, .unset, .unset, .unset, .unset] [(.int (10 : Int32)), (.int p2)])
    refine own_by (fun t_ k_ => XT.ishr X0.here hx rfl (hb hby at_68) rfl k_) ?_
    show own_Go p e below _ s₁ (mkF m 69 #[.val (.int p1), .val (.int p2), .val (.int p3), .val (.int p4), .val (.int u1), .val (.int u0), .val (.int u1), .val (.int u2), .val (.int u3), .val (.int ma), .val (.int mb), .val (.int af), .unset, .unset, .unset, .unset, .unset, .unset, .unset, .unset, .unset] [(.int (p2 >>> ((10 : Int32) &&& 31)))])
    refine own_by (fun t_ k_ => XS.iconst X0.here hx rfl (hb hby at_69) k_) ?_
    show own_Go p e below _ s₁ (mkF m 70 #[.val (.int p1), .val (.int p2), .val (.int p3), .val (.int p4), .val (.int u1), .val (.int u0), .val (.int u1), .val (.int u2), .val (.int u3), .val (.int ma), .val (.int mb), .val (.int af), .unset, .unset, .unset, .unset, .unset, .unset, .unset, .unset, .unset] [(.int (3 : Int32)), (.int (p2 >>> ((10 : Int32) &&& 31)))])
    refine own_by (fun t_ k_ => XS.iand X0.here hx rfl (hb hby at_70) rfl k_) ?_
    show own_Go p e below _ s₁ (mkF m 71 #[.val (.int p1), .val (.int p2), .val (.int p3), .val (.int p4), .val (.int u1), .val (.int u0), .val (.int u1), .val (.int u2), .val (.int u3), .val (.int ma), .val (.int mb), .val (.int af), .unset, .unset, .unset, .unset, .unset, .unset, .unset, .unset, .unset] [(.int ((p2 >>> ((10 : Int32) &&& 31)) &&& (3 : Int32)))])
    refine own_by (fun t_ k_ => XS.istore X0.here hx rfl (hb hby at_71) rfl (l' := #[.val (.int p1), .val (.int p2), .val (.int p3), .val (.int p4), .val (.int u1), .val (.int u0), .val (.int u1), .val (.int u2), .val (.int u3), .val (.int ma), .val (.int mb), .val (.int af), .val (.int ((p2 >>> ((10 : Int32) &&& 31)) &&& (3 : Int32))), .unset, .unset, .unset, .unset, .unset, .unset, .unset, .unset]) rfl k_) ?_
    show own_Go p e below _ s₁ (mkF m 73 #[.val (.int p1), .val (.int p2), .val (.int p3), .val (.int p4), .val (.int u1), .val (.int u0), .val (.int u1), .val (.int u2), .val (.int u3), .val (.int ma), .val (.int mb), .val (.int af), .val (.int ((p2 >>> ((10 : Int32) &&& 31)) &&& (3 : Int32))), .unset, .unset, .unset, .unset, .unset, .unset, .unset, .unset] [])
    generalize h_bf : ((p2 >>> ((10 : Int32) &&& 31)) &&& (3 : Int32)) = bf
    obtain ⟨fa, hfa⟩ : ∃ i : Nat, i ≤ 3 ∧ af.toInt = (i : Int) := h_af ▸ own_m3 _
    obtain ⟨fb, hfb⟩ : ∃ i : Nat, i ≤ 3 ∧ bf.toInt = (i : Int) := h_bf ▸ own_m3 _
    show own_Go p e below _ s₁ (mkF m 73 #[.val (.int p1), .val (.int p2), .val (.int p3), .val (.int p4), .val (.int u1), .val (.int u0), .val (.int u1), .val (.int u2), .val (.int u3), .val (.int ma), .val (.int mb), .val (.int af), .val (.int bf), .unset, .unset, .unset, .unset, .unset, .unset, .unset, .unset] [])
    refine own_by (fun t_ k_ => XS.bipush X0.here hx rfl (hb hby at_73) k_) ?_
    show own_Go p e below _ s₁ (mkF m 75 #[.val (.int p1), .val (.int p2), .val (.int p3), .val (.int p4), .val (.int u1), .val (.int u0), .val (.int u1), .val (.int u2), .val (.int u3), .val (.int ma), .val (.int mb), .val (.int af), .val (.int bf), .unset, .unset, .unset, .unset, .unset, .unset, .unset, .unset] [(.int (8 : Int32))])
    refine own_newP X0 hx hZ (hw _ (List.mem_of_getElem? (i := 3) rfl)) e0 (hb hby at_75) 8 8 (by decide) (by decide) (by decide) (by decide) (by decide) ?_
    intro T1 h1 b1 X1 e1 g1 E1 A1
    have g_b1 : n0 ≤ b1 := Nat.le_trans Z0 (Nat.le_of_eq g1.symm)
    have sz1 : n0 ≤ h1.size := Nat.le_trans Z0 E1.1
    have V1_0 : own_Arr Z h1 b1 .int [(.int (0 : Int32)), (.int (0 : Int32)), (.int (0 : Int32)), (.int (0 : Int32)), (.int (0 : Int32)), (.int (0 : Int32)), (.int (0 : Int32)), (.int (0 : Int32))] := A1
    show own_Go p e below _ T1 (mkF m 77 #[.val (.int p1), .val (.int p2), .val (.int p3), .val (.int p4), .val (.int u1), .val (.int u0), .val (.int u1), .val (.int u2), .val (.int u3), .val (.int ma), .val (.int mb), .val (.int af), .val (.int bf), .unset, .unset, .unset, .unset, .unset, .unset, .unset, .unset] [(.ref b1)])
    refine own_by (fun t_ k_ => XS.dup X1.here hx rfl (hb hby at_77) rfl rfl k_) ?_
    show own_Go p e below _ T1 (mkF m 78 #[.val (.int p1), .val (.int p2), .val (.int p3), .val (.int p4), .val (.int u1), .val (.int u0), .val (.int u1), .val (.int u2), .val (.int u3), .val (.int ma), .val (.int mb), .val (.int af), .val (.int bf), .unset, .unset, .unset, .unset, .unset, .unset, .unset, .unset] [(.ref b1), (.ref b1)])
    refine own_by (fun t_ k_ => XS.iconst X1.here hx rfl (hb hby at_78) k_) ?_
    show own_Go p e below _ T1 (mkF m 79 #[.val (.int p1), .val (.int p2), .val (.int p3), .val (.int p4), .val (.int u1), .val (.int u0), .val (.int u1), .val (.int u2), .val (.int u3), .val (.int ma), .val (.int mb), .val (.int af), .val (.int bf), .unset, .unset, .unset, .unset, .unset, .unset, .unset, .unset] [(.int (0 : Int32)), (.ref b1), (.ref b1)])
    refine own_by (fun t_ k_ => XS.iloadN X1.here hx rfl (hb hby at_79) rfl k_) ?_
    show own_Go p e below _ T1 (mkF m 80 #[.val (.int p1), .val (.int p2), .val (.int p3), .val (.int p4), .val (.int u1), .val (.int u0), .val (.int u1), .val (.int u2), .val (.int u3), .val (.int ma), .val (.int mb), .val (.int af), .val (.int bf), .unset, .unset, .unset, .unset, .unset, .unset, .unset, .unset] [(.int p3), (.int (0 : Int32)), (.ref b1), (.ref b1)])
    refine own_iastore X1 hx hZ e1 V1_0 0 (by decide) (Nat.le_of_ble_eq_true rfl) (hb hby at_80) ?_
    intro T2 h2 X2 e2 W2 A2
    have V2_0 : own_Arr Z h2 b1 .int [(.int p3), (.int (0 : Int32)), (.int (0 : Int32)), (.int (0 : Int32)), (.int (0 : Int32)), (.int (0 : Int32)), (.int (0 : Int32)), (.int (0 : Int32))] := A2
    have N2 := Fr.snoc X2 N0 g_b1
    have sz2 : n0 ≤ h2.size := Nat.le_trans sz1 (Keep.of_wr W2).1
    show own_Go p e below _ T2 (mkF m 81 #[.val (.int p1), .val (.int p2), .val (.int p3), .val (.int p4), .val (.int u1), .val (.int u0), .val (.int u1), .val (.int u2), .val (.int u3), .val (.int ma), .val (.int mb), .val (.int af), .val (.int bf), .unset, .unset, .unset, .unset, .unset, .unset, .unset, .unset] [(.ref b1)])
    refine own_by (fun t_ k_ => XS.dup X2.here hx rfl (hb hby at_81) rfl rfl k_) ?_
    show own_Go p e below _ T2 (mkF m 82 #[.val (.int p1), .val (.int p2), .val (.int p3), .val (.int p4), .val (.int u1), .val (.int u0), .val (.int u1), .val (.int u2), .val (.int u3), .val (.int ma), .val (.int mb), .val (.int af), .val (.int bf), .unset, .unset, .unset, .unset, .unset, .unset, .unset, .unset] [(.ref b1), (.ref b1)])
    refine own_by (fun t_ k_ => XS.iconst X2.here hx rfl (hb hby at_82) k_) ?_
    show own_Go p e below _ T2 (mkF m 83 #[.val (.int p1), .val (.int p2), .val (.int p3), .val (.int p4), .val (.int u1), .val (.int u0), .val (.int u1), .val (.int u2), .val (.int u3), .val (.int ma), .val (.int mb), .val (.int af), .val (.int bf), .unset, .unset, .unset, .unset, .unset, .unset, .unset, .unset] [(.int (1 : Int32)), (.ref b1), (.ref b1)])
    refine own_by (fun t_ k_ => XS.iloadN X2.here hx rfl (hb hby at_83) rfl k_) ?_
    show own_Go p e below _ T2 (mkF m 84 #[.val (.int p1), .val (.int p2), .val (.int p3), .val (.int p4), .val (.int u1), .val (.int u0), .val (.int u1), .val (.int u2), .val (.int u3), .val (.int ma), .val (.int mb), .val (.int af), .val (.int bf), .unset, .unset, .unset, .unset, .unset, .unset, .unset, .unset] [(.int p3), (.int (1 : Int32)), (.ref b1), (.ref b1)])
    refine own_iastore X2 hx hZ e2 V2_0 1 (by decide) (Nat.le_of_ble_eq_true rfl) (hb hby at_84) ?_
    intro T3 h3 X3 e3 W3 A3
    have V3_0 : own_Arr Z h3 b1 .int [(.int p3), (.int p3), (.int (0 : Int32)), (.int (0 : Int32)), (.int (0 : Int32)), (.int (0 : Int32)), (.int (0 : Int32)), (.int (0 : Int32))] := A3
    have N3 := Fr.snoc X3 N2 g_b1
    have sz3 : n0 ≤ h3.size := Nat.le_trans sz2 (Keep.of_wr W3).1
    show own_Go p e below _ T3 (mkF m 85 #[.val (.int p1), .val (.int p2), .val (.int p3), .val (.int p4), .val (.int u1), .val (.int u0), .val (.int u1), .val (.int u2), .val (.int u3), .val (.int ma), .val (.int mb), .val (.int af), .val (.int bf), .unset, .unset, .unset, .unset, .unset, .unset, .unset, .unset] [(.ref b1)])
    refine own_by (fun t_ k_ => XS.dup X3.here hx rfl (hb hby at_85) rfl rfl k_) ?_
    show own_Go p e below _ T3 (mkF m 86 #[.val (.int p1), .val (.int p2), .val (.int p3), .val (.int p4), .val (.int u1), .val (.int u0), .val (.int u1), .val (.int u2), .val (.int u3), .val (.int ma), .val (.int mb), .val (.int af), .val (.int bf), .unset, .unset, .unset, .unset, .unset, .unset, .unset, .unset] [(.ref b1), (.ref b1)])
    refine own_by (fun t_ k_ => XS.iconst X3.here hx rfl (hb hby at_86) k_) ?_
    show own_Go p e below _ T3 (mkF m 87 #[.val (.int p1), .val (.int p2), .val (.int p3), .val (.int p4), .val (.int u1), .val (.int u0), .val (.int u1), .val (.int u2), .val (.int u3), .val (.int ma), .val (.int mb), .val (.int af), .val (.int bf), .unset, .unset, .unset, .unset, .unset, .unset, .unset, .unset] [(.int (2 : Int32)), (.ref b1), (.ref b1)])
    refine own_by (fun t_ k_ => XS.iloadN X3.here hx rfl (hb hby at_87) rfl k_) ?_
    show own_Go p e below _ T3 (mkF m 88 #[.val (.int p1), .val (.int p2), .val (.int p3), .val (.int p4), .val (.int u1), .val (.int u0), .val (.int u1), .val (.int u2), .val (.int u3), .val (.int ma), .val (.int mb), .val (.int af), .val (.int bf), .unset, .unset, .unset, .unset, .unset, .unset, .unset, .unset] [(.int p3), (.int (2 : Int32)), (.ref b1), (.ref b1)])
    refine own_iastore X3 hx hZ e3 V3_0 2 (by decide) (Nat.le_of_ble_eq_true rfl) (hb hby at_88) ?_
    intro T4 h4 X4 e4 W4 A4
    have V4_0 : own_Arr Z h4 b1 .int [(.int p3), (.int p3), (.int p3), (.int (0 : Int32)), (.int (0 : Int32)), (.int (0 : Int32)), (.int (0 : Int32)), (.int (0 : Int32))] := A4
    have N4 := Fr.snoc X4 N3 g_b1
    have sz4 : n0 ≤ h4.size := Nat.le_trans sz3 (Keep.of_wr W4).1
    show own_Go p e below _ T4 (mkF m 89 #[.val (.int p1), .val (.int p2), .val (.int p3), .val (.int p4), .val (.int u1), .val (.int u0), .val (.int u1), .val (.int u2), .val (.int u3), .val (.int ma), .val (.int mb), .val (.int af), .val (.int bf), .unset, .unset, .unset, .unset, .unset, .unset, .unset, .unset] [(.ref b1)])
    refine own_by (fun t_ k_ => XS.dup X4.here hx rfl (hb hby at_89) rfl rfl k_) ?_
    show own_Go p e below _ T4 (mkF m 90 #[.val (.int p1), .val (.int p2), .val (.int p3), .val (.int p4), .val (.int u1), .val (.int u0), .val (.int u1), .val (.int u2), .val (.int u3), .val (.int ma), .val (.int mb), .val (.int af), .val (.int bf), .unset, .unset, .unset, .unset, .unset, .unset, .unset, .unset] [(.ref b1), (.ref b1)])
    refine own_by (fun t_ k_ => XS.iconst X4.here hx rfl (hb hby at_90) k_) ?_
    show own_Go p e below _ T4 (mkF m 91 #[.val (.int p1), .val (.int p2), .val (.int p3), .val (.int p4), .val (.int u1), .val (.int u0), .val (.int u1), .val (.int u2), .val (.int u3), .val (.int ma), .val (.int mb), .val (.int af), .val (.int bf), .unset, .unset, .unset, .unset, .unset, .unset, .unset, .unset] [(.int (3 : Int32)), (.ref b1), (.ref b1)])
    refine own_by (fun t_ k_ => XS.iloadN X4.here hx rfl (hb hby at_91) rfl k_) ?_
    show own_Go p e below _ T4 (mkF m 92 #[.val (.int p1), .val (.int p2), .val (.int p3), .val (.int p4), .val (.int u1), .val (.int u0), .val (.int u1), .val (.int u2), .val (.int u3), .val (.int ma), .val (.int mb), .val (.int af), .val (.int bf), .unset, .unset, .unset, .unset, .unset, .unset, .unset, .unset] [(.int p3), (.int (3 : Int32)), (.ref b1), (.ref b1)])
    refine own_iastore X4 hx hZ e4 V4_0 3 (by decide) (Nat.le_of_ble_eq_true rfl) (hb hby at_92) ?_
    intro T5 h5 X5 e5 W5 A5
    have V5_0 : own_Arr Z h5 b1 .int [(.int p3), (.int p3), (.int p3), (.int p3), (.int (0 : Int32)), (.int (0 : Int32)), (.int (0 : Int32)), (.int (0 : Int32))] := A5
    have N5 := Fr.snoc X5 N4 g_b1
    have sz5 : n0 ≤ h5.size := Nat.le_trans sz4 (Keep.of_wr W5).1
    show own_Go p e below _ T5 (mkF m 93 #[.val (.int p1), .val (.int p2), .val (.int p3), .val (.int p4), .val (.int u1), .val (.int u0), .val (.int u1), .val (.int u2), .val (.int u3), .val (.int ma), .val (.int mb), .val (.int af), .val (.int bf), .unset, .unset, .unset, .unset, .unset, .unset, .unset, .unset] [(.ref b1)])
    refine own_by (fun t_ k_ => XS.dup X5.here hx rfl (hb hby at_93) rfl rfl k_) ?_
    show own_Go p e below _ T5 (mkF m 94 #[.val (.int p1), .val (.int p2), .val (.int p3), .val (.int p4), .val (.int u1), .val (.int u0), .val (.int u1), .val (.int u2), .val (.int u3), .val (.int ma), .val (.int mb), .val (.int af), .val (.int bf), .unset, .unset, .unset, .unset, .unset, .unset, .unset, .unset] [(.ref b1), (.ref b1)])
    refine own_by (fun t_ k_ => XS.iconst X5.here hx rfl (hb hby at_94) k_) ?_
    show own_Go p e below _ T5 (mkF m 95 #[.val (.int p1), .val (.int p2), .val (.int p3), .val (.int p4), .val (.int u1), .val (.int u0), .val (.int u1), .val (.int u2), .val (.int u3), .val (.int ma), .val (.int mb), .val (.int af), .val (.int bf), .unset, .unset, .unset, .unset, .unset, .unset, .unset, .unset] [(.int (4 : Int32)), (.ref b1), (.ref b1)])
    refine own_by (fun t_ k_ => XS.iloadN X5.here hx rfl (hb hby at_95) rfl k_) ?_
    show own_Go p e below _ T5 (mkF m 96 #[.val (.int p1), .val (.int p2), .val (.int p3), .val (.int p4), .val (.int u1), .val (.int u0), .val (.int u1), .val (.int u2), .val (.int u3), .val (.int ma), .val (.int mb), .val (.int af), .val (.int bf), .unset, .unset, .unset, .unset, .unset, .unset, .unset, .unset] [(.int p3), (.int (4 : Int32)), (.ref b1), (.ref b1)])
    refine own_iastore X5 hx hZ e5 V5_0 4 (by decide) (Nat.le_of_ble_eq_true rfl) (hb hby at_96) ?_
    intro T6 h6 X6 e6 W6 A6
    have V6_0 : own_Arr Z h6 b1 .int [(.int p3), (.int p3), (.int p3), (.int p3), (.int p3), (.int (0 : Int32)), (.int (0 : Int32)), (.int (0 : Int32))] := A6
    have N6 := Fr.snoc X6 N5 g_b1
    have sz6 : n0 ≤ h6.size := Nat.le_trans sz5 (Keep.of_wr W6).1
    show own_Go p e below _ T6 (mkF m 97 #[.val (.int p1), .val (.int p2), .val (.int p3), .val (.int p4), .val (.int u1), .val (.int u0), .val (.int u1), .val (.int u2), .val (.int u3), .val (.int ma), .val (.int mb), .val (.int af), .val (.int bf), .unset, .unset, .unset, .unset, .unset, .unset, .unset, .unset] [(.ref b1)])
    refine own_by (fun t_ k_ => XS.dup X6.here hx rfl (hb hby at_97) rfl rfl k_) ?_
    show own_Go p e below _ T6 (mkF m 98 #[.val (.int p1), .val (.int p2), .val (.int p3), .val (.int p4), .val (.int u1), .val (.int u0), .val (.int u1), .val (.int u2), .val (.int u3), .val (.int ma), .val (.int mb), .val (.int af), .val (.int bf), .unset, .unset, .unset, .unset, .unset, .unset, .unset, .unset] [(.ref b1), (.ref b1)])
    refine own_by (fun t_ k_ => XS.iconst X6.here hx rfl (hb hby at_98) k_) ?_
    show own_Go p e below _ T6 (mkF m 99 #[.val (.int p1), .val (.int p2), .val (.int p3), .val (.int p4), .val (.int u1), .val (.int u0), .val (.int u1), .val (.int u2), .val (.int u3), .val (.int ma), .val (.int mb), .val (.int af), .val (.int bf), .unset, .unset, .unset, .unset, .unset, .unset, .unset, .unset] [(.int (5 : Int32)), (.ref b1), (.ref b1)])
    refine own_by (fun t_ k_ => XS.iloadN X6.here hx rfl (hb hby at_99) rfl k_) ?_
    show own_Go p e below _ T6 (mkF m 100 #[.val (.int p1), .val (.int p2), .val (.int p3), .val (.int p4), .val (.int u1), .val (.int u0), .val (.int u1), .val (.int u2), .val (.int u3), .val (.int ma), .val (.int mb), .val (.int af), .val (.int bf), .unset, .unset, .unset, .unset, .unset, .unset, .unset, .unset] [(.int p3), (.int (5 : Int32)), (.ref b1), (.ref b1)])
    refine own_iastore X6 hx hZ e6 V6_0 5 (by decide) (Nat.le_of_ble_eq_true rfl) (hb hby at_100) ?_
    intro T7 h7 X7 e7 W7 A7
    have V7_0 : own_Arr Z h7 b1 .int [(.int p3), (.int p3), (.int p3), (.int p3), (.int p3), (.int p3), (.int (0 : Int32)), (.int (0 : Int32))] := A7
    have N7 := Fr.snoc X7 N6 g_b1
    have sz7 : n0 ≤ h7.size := Nat.le_trans sz6 (Keep.of_wr W7).1
    show own_Go p e below _ T7 (mkF m 101 #[.val (.int p1), .val (.int p2), .val (.int p3), .val (.int p4), .val (.int u1), .val (.int u0), .val (.int u1), .val (.int u2), .val (.int u3), .val (.int ma), .val (.int mb), .val (.int af), .val (.int bf), .unset, .unset, .unset, .unset, .unset, .unset, .unset, .unset] [(.ref b1)])
    refine own_by (fun t_ k_ => XS.dup X7.here hx rfl (hb hby at_101) rfl rfl k_) ?_
    show own_Go p e below _ T7 (mkF m 102 #[.val (.int p1), .val (.int p2), .val (.int p3), .val (.int p4), .val (.int u1), .val (.int u0), .val (.int u1), .val (.int u2), .val (.int u3), .val (.int ma), .val (.int mb), .val (.int af), .val (.int bf), .unset, .unset, .unset, .unset, .unset, .unset, .unset, .unset] [(.ref b1), (.ref b1)])
    refine own_by (fun t_ k_ => XS.bipush X7.here hx rfl (hb hby at_102) k_) ?_
    show own_Go p e below _ T7 (mkF m 104 #[.val (.int p1), .val (.int p2), .val (.int p3), .val (.int p4), .val (.int u1), .val (.int u0), .val (.int u1), .val (.int u2), .val (.int u3), .val (.int ma), .val (.int mb), .val (.int af), .val (.int bf), .unset, .unset, .unset, .unset, .unset, .unset, .unset, .unset] [(.int (6 : Int32)), (.ref b1), (.ref b1)])
    refine own_by (fun t_ k_ => XS.iloadN X7.here hx rfl (hb hby at_104) rfl k_) ?_
    show own_Go p e below _ T7 (mkF m 105 #[.val (.int p1), .val (.int p2), .val (.int p3), .val (.int p4), .val (.int u1), .val (.int u0), .val (.int u1), .val (.int u2), .val (.int u3), .val (.int ma), .val (.int mb), .val (.int af), .val (.int bf), .unset, .unset, .unset, .unset, .unset, .unset, .unset, .unset] [(.int p3), (.int (6 : Int32)), (.ref b1), (.ref b1)])
    refine own_iastore X7 hx hZ e7 V7_0 6 (by decide) (Nat.le_of_ble_eq_true rfl) (hb hby at_105) ?_
    intro T8 h8 X8 e8 W8 A8
    have V8_0 : own_Arr Z h8 b1 .int [(.int p3), (.int p3), (.int p3), (.int p3), (.int p3), (.int p3), (.int p3), (.int (0 : Int32))] := A8
    have N8 := Fr.snoc X8 N7 g_b1
    have sz8 : n0 ≤ h8.size := Nat.le_trans sz7 (Keep.of_wr W8).1
    show own_Go p e below _ T8 (mkF m 106 #[.val (.int p1), .val (.int p2), .val (.int p3), .val (.int p4), .val (.int u1), .val (.int u0), .val (.int u1), .val (.int u2), .val (.int u3), .val (.int ma), .val (.int mb), .val (.int af), .val (.int bf), .unset, .unset, .unset, .unset, .unset, .unset, .unset, .unset] [(.ref b1)])
    refine own_by (fun t_ k_ => XS.dup X8.here hx rfl (hb hby at_106) rfl rfl k_) ?_
    show own_Go p e below _ T8 (mkF m 107 #[.val (.int p1), .val (.int p2), .val (.int p3), .val (.int p4), .val (.int u1), .val (.int u0), .val (.int u1), .val (.int u2), .val (.int u3), .val (.int ma), .val (.int mb), .val (.int af), .val (.int bf), .unset, .unset, .unset, .unset, .unset, .unset, .unset, .unset] [(.ref b1), (.ref b1)])
    refine own_by (fun t_ k_ => XS.bipush X8.here hx rfl (hb hby at_107) k_) ?_
    show own_Go p e below _ T8 (mkF m 109 #[.val (.int p1), .val (.int p2), .val (.int p3), .val (.int p4), .val (.int u1), .val (.int u0), .val (.int u1), .val (.int u2), .val (.int u3), .val (.int ma), .val (.int mb), .val (.int af), .val (.int bf), .unset, .unset, .unset, .unset, .unset, .unset, .unset, .unset] [(.int (7 : Int32)), (.ref b1), (.ref b1)])
    refine own_by (fun t_ k_ => XS.iloadN X8.here hx rfl (hb hby at_109) rfl k_) ?_
    show own_Go p e below _ T8 (mkF m 110 #[.val (.int p1), .val (.int p2), .val (.int p3), .val (.int p4), .val (.int u1), .val (.int u0), .val (.int u1), .val (.int u2), .val (.int u3), .val (.int ma), .val (.int mb), .val (.int af), .val (.int bf), .unset, .unset, .unset, .unset, .unset, .unset, .unset, .unset] [(.int p3), (.int (7 : Int32)), (.ref b1), (.ref b1)])
    refine own_iastore X8 hx hZ e8 V8_0 7 (by decide) (Nat.le_of_ble_eq_true rfl) (hb hby at_110) ?_
    intro T9 h9 X9 e9 W9 A9
    have V9_0 : own_Arr Z h9 b1 .int [(.int p3), (.int p3), (.int p3), (.int p3), (.int p3), (.int p3), (.int p3), (.int p3)] := A9
    have N9 := Fr.snoc X9 N8 g_b1
    have sz9 : n0 ≤ h9.size := Nat.le_trans sz8 (Keep.of_wr W9).1
    show own_Go p e below _ T9 (mkF m 111 #[.val (.int p1), .val (.int p2), .val (.int p3), .val (.int p4), .val (.int u1), .val (.int u0), .val (.int u1), .val (.int u2), .val (.int u3), .val (.int ma), .val (.int mb), .val (.int af), .val (.int bf), .unset, .unset, .unset, .unset, .unset, .unset, .unset, .unset] [(.ref b1)])
    refine own_by (fun t_ k_ => XS.astore X9.here hx rfl (hb hby at_111) rfl rfl (l' := #[.val (.int p1), .val (.int p2), .val (.int p3), .val (.int p4), .val (.int u1), .val (.int u0), .val (.int u1), .val (.int u2), .val (.int u3), .val (.int ma), .val (.int mb), .val (.int af), .val (.int bf), .val (.ref b1), .unset, .unset, .unset, .unset, .unset, .unset, .unset]) rfl k_) ?_
    show own_Go p e below _ T9 (mkF m 113 #[.val (.int p1), .val (.int p2), .val (.int p3), .val (.int p4), .val (.int u1), .val (.int u0), .val (.int u1), .val (.int u2), .val (.int u3), .val (.int ma), .val (.int mb), .val (.int af), .val (.int bf), .val (.ref b1), .unset, .unset, .unset, .unset, .unset, .unset, .unset] [])
    refine own_by (fun t_ k_ => XS.bipush X9.here hx rfl (hb hby at_113) k_) ?_
    show own_Go p e below _ T9 (mkF m 115 #[.val (.int p1), .val (.int p2), .val (.int p3), .val (.int p4), .val (.int u1), .val (.int u0), .val (.int u1), .val (.int u2), .val (.int u3), .val (.int ma), .val (.int mb), .val (.int af), .val (.int bf), .val (.ref b1), .unset, .unset, .unset, .unset, .unset, .unset, .unset] [(.int (8 : Int32))])
    refine own_newP X9 hx hZ (hw _ (List.mem_of_getElem? (i := 3) rfl)) e9 (hb hby at_115) 8 8 (by decide) (by decide) (by decide) (by decide) (by decide) ?_
    intro T10 h10 b10 X10 e10 g10 E10 A10
    have lt_b1_b10 : b1 < b10 := Nat.lt_of_lt_of_le V9_0.lt (Nat.le_of_eq g10.symm)
    have g_b10 : n0 ≤ b10 := Nat.le_trans sz9 (Nat.le_of_eq g10.symm)
    have sz10 : n0 ≤ h10.size := Nat.le_trans sz9 E10.1
    have V10_0 : own_Arr Z h10 b10 .int [(.int (0 : Int32)), (.int (0 : Int32)), (.int (0 : Int32)), (.int (0 : Int32)), (.int (0 : Int32)), (.int (0 : Int32)), (.int (0 : Int32)), (.int (0 : Int32))] := A10
    show own_Go p e below _ T10 (mkF m 117 #[.val (.int p1), .val (.int p2), .val (.int p3), .val (.int p4), .val (.int u1), .val (.int u0), .val (.int u1), .val (.int u2), .val (.int u3), .val (.int ma), .val (.int mb), .val (.int af), .val (.int bf), .val (.ref b1), .unset, .unset, .unset, .unset, .unset, .unset, .unset] [(.ref b10)])
    refine own_by (fun t_ k_ => XS.dup X10.here hx rfl (hb hby at_117) rfl rfl k_) ?_
    show own_Go p e below _ T10 (mkF m 118 #[.val (.int p1), .val (.int p2), .val (.int p3), .val (.int p4), .val (.int u1), .val (.int u0), .val (.int u1), .val (.int u2), .val (.int u3), .val (.int ma), .val (.int mb), .val (.int af), .val (.int bf), .val (.ref b1), .unset, .unset, .unset, .unset, .unset, .unset, .unset] [(.ref b10), (.ref b10)])
    refine own_by (fun t_ k_ => XS.iconst X10.here hx rfl (hb hby at_118) k_) ?_
    show own_Go p e below _ T10 (mkF m 119 #[.val (.int p1), .val (.int p2), .val (.int p3), .val (.int p4), .val (.int u1), .val (.int u0), .val (.int u1), .val (.int u2), .val (.int u3), .val (.int ma), .val (.int mb), .val (.int af), .val (.int bf), .val (.ref b1), .unset, .unset, .unset, .unset, .unset, .unset, .unset] [(.int (0 : Int32)), (.ref b10), (.ref b10)])
    refine own_by (fun t_ k_ => XS.iloadN X10.here hx rfl (hb hby at_119) rfl k_) ?_
    show own_Go p e below _ T10 (mkF m 120 #[.val (.int p1), .val (.int p2), .val (.int p3), .val (.int p4), .val (.int u1), .val (.int u0), .val (.int u1), .val (.int u2), .val (.int u3), .val (.int ma), .val (.int mb), .val (.int af), .val (.int bf), .val (.ref b1), .unset, .unset, .unset, .unset, .unset, .unset, .unset] [(.int p3), (.int (0 : Int32)), (.ref b10), (.ref b10)])
    refine own_iastore X10 hx hZ e10 V10_0 0 (by decide) (Nat.le_of_ble_eq_true rfl) (hb hby at_120) ?_
    intro T11 h11 X11 e11 W11 A11
    have V11_0 : own_Arr Z h11 b10 .int [(.int p3), (.int (0 : Int32)), (.int (0 : Int32)), (.int (0 : Int32)), (.int (0 : Int32)), (.int (0 : Int32)), (.int (0 : Int32)), (.int (0 : Int32))] := A11
    have N11 := Fr.snoc X11 N9 g_b10
    have sz11 : n0 ≤ h11.size := Nat.le_trans sz10 (Keep.of_wr W11).1
    show own_Go p e below _ T11 (mkF m 121 #[.val (.int p1), .val (.int p2), .val (.int p3), .val (.int p4), .val (.int u1), .val (.int u0), .val (.int u1), .val (.int u2), .val (.int u3), .val (.int ma), .val (.int mb), .val (.int af), .val (.int bf), .val (.ref b1), .unset, .unset, .unset, .unset, .unset, .unset, .unset] [(.ref b10)])
    refine own_by (fun t_ k_ => XS.dup X11.here hx rfl (hb hby at_121) rfl rfl k_) ?_
    show own_Go p e below _ T11 (mkF m 122 #[.val (.int p1), .val (.int p2), .val (.int p3), .val (.int p4), .val (.int u1), .val (.int u0), .val (.int u1), .val (.int u2), .val (.int u3), .val (.int ma), .val (.int mb), .val (.int af), .val (.int bf), .val (.ref b1), .unset, .unset, .unset, .unset, .unset, .unset, .unset] [(.ref b10), (.ref b10)])
    refine own_by (fun t_ k_ => XS.iconst X11.here hx rfl (hb hby at_122) k_) ?_
    show own_Go p e below _ T11 (mkF m 123 #[.val (.int p1), .val (.int p2), .val (.int p3), .val (.int p4), .val (.int u1), .val (.int u0), .val (.int u1), .val (.int u2), .val (.int u3), .val (.int ma), .val (.int mb), .val (.int af), .val (.int bf), .val (.ref b1), .unset, .unset, .unset, .unset, .unset, .unset, .unset] [(.int (1 : Int32)), (.ref b10), (.ref b10)])
    refine own_by (fun t_ k_ => XS.iloadN X11.here hx rfl (hb hby at_123) rfl k_) ?_
    show own_Go p e below _ T11 (mkF m 124 #[.val (.int p1), .val (.int p2), .val (.int p3), .val (.int p4), .val (.int u1), .val (.int u0), .val (.int u1), .val (.int u2), .val (.int u3), .val (.int ma), .val (.int mb), .val (.int af), .val (.int bf), .val (.ref b1), .unset, .unset, .unset, .unset, .unset, .unset, .unset] [(.int p3), (.int (1 : Int32)), (.ref b10), (.ref b10)])
    refine own_iastore X11 hx hZ e11 V11_0 1 (by decide) (Nat.le_of_ble_eq_true rfl) (hb hby at_124) ?_
    intro T12 h12 X12 e12 W12 A12
    have V12_0 : own_Arr Z h12 b10 .int [(.int p3), (.int p3), (.int (0 : Int32)), (.int (0 : Int32)), (.int (0 : Int32)), (.int (0 : Int32)), (.int (0 : Int32)), (.int (0 : Int32))] := A12
    have N12 := Fr.snoc X12 N11 g_b10
    have sz12 : n0 ≤ h12.size := Nat.le_trans sz11 (Keep.of_wr W12).1
    show own_Go p e below _ T12 (mkF m 125 #[.val (.int p1), .val (.int p2), .val (.int p3), .val (.int p4), .val (.int u1), .val (.int u0), .val (.int u1), .val (.int u2), .val (.int u3), .val (.int ma), .val (.int mb), .val (.int af), .val (.int bf), .val (.ref b1), .unset, .unset, .unset, .unset, .unset, .unset, .unset] [(.ref b10)])
    refine own_by (fun t_ k_ => XS.dup X12.here hx rfl (hb hby at_125) rfl rfl k_) ?_
    show own_Go p e below _ T12 (mkF m 126 #[.val (.int p1), .val (.int p2), .val (.int p3), .val (.int p4), .val (.int u1), .val (.int u0), .val (.int u1), .val (.int u2), .val (.int u3), .val (.int ma), .val (.int mb), .val (.int af), .val (.int bf), .val (.ref b1), .unset, .unset, .unset, .unset, .unset, .unset, .unset] [(.ref b10), (.ref b10)])
    refine own_by (fun t_ k_ => XS.iconst X12.here hx rfl (hb hby at_126) k_) ?_
    show own_Go p e below _ T12 (mkF m 127 #[.val (.int p1), .val (.int p2), .val (.int p3), .val (.int p4), .val (.int u1), .val (.int u0), .val (.int u1), .val (.int u2), .val (.int u3), .val (.int ma), .val (.int mb), .val (.int af), .val (.int bf), .val (.ref b1), .unset, .unset, .unset, .unset, .unset, .unset, .unset] [(.int (2 : Int32)), (.ref b10), (.ref b10)])
    refine own_by (fun t_ k_ => XS.iloadN X12.here hx rfl (hb hby at_127) rfl k_) ?_
    show own_Go p e below _ T12 (mkF m 128 #[.val (.int p1), .val (.int p2), .val (.int p3), .val (.int p4), .val (.int u1), .val (.int u0), .val (.int u1), .val (.int u2), .val (.int u3), .val (.int ma), .val (.int mb), .val (.int af), .val (.int bf), .val (.ref b1), .unset, .unset, .unset, .unset, .unset, .unset, .unset] [(.int p3), (.int (2 : Int32)), (.ref b10), (.ref b10)])
    refine own_iastore X12 hx hZ e12 V12_0 2 (by decide) (Nat.le_of_ble_eq_true rfl) (hb hby at_128) ?_
    intro T13 h13 X13 e13 W13 A13
    have V13_0 : own_Arr Z h13 b10 .int [(.int p3), (.int p3), (.int p3), (.int (0 : Int32)), (.int (0 : Int32)), (.int (0 : Int32)), (.int (0 : Int32)), (.int (0 : Int32))] := A13
    have N13 := Fr.snoc X13 N12 g_b10
    have sz13 : n0 ≤ h13.size := Nat.le_trans sz12 (Keep.of_wr W13).1
    show own_Go p e below _ T13 (mkF m 129 #[.val (.int p1), .val (.int p2), .val (.int p3), .val (.int p4), .val (.int u1), .val (.int u0), .val (.int u1), .val (.int u2), .val (.int u3), .val (.int ma), .val (.int mb), .val (.int af), .val (.int bf), .val (.ref b1), .unset, .unset, .unset, .unset, .unset, .unset, .unset] [(.ref b10)])
    refine own_by (fun t_ k_ => XS.dup X13.here hx rfl (hb hby at_129) rfl rfl k_) ?_
    show own_Go p e below _ T13 (mkF m 130 #[.val (.int p1), .val (.int p2), .val (.int p3), .val (.int p4), .val (.int u1), .val (.int u0), .val (.int u1), .val (.int u2), .val (.int u3), .val (.int ma), .val (.int mb), .val (.int af), .val (.int bf), .val (.ref b1), .unset, .unset, .unset, .unset, .unset, .unset, .unset] [(.ref b10), (.ref b10)])
    refine own_by (fun t_ k_ => XS.iconst X13.here hx rfl (hb hby at_130) k_) ?_
    show own_Go p e below _ T13 (mkF m 131 #[.val (.int p1), .val (.int p2), .val (.int p3), .val (.int p4), .val (.int u1), .val (.int u0), .val (.int u1), .val (.int u2), .val (.int u3), .val (.int ma), .val (.int mb), .val (.int af), .val (.int bf), .val (.ref b1), .unset, .unset, .unset, .unset, .unset, .unset, .unset] [(.int (3 : Int32)), (.ref b10), (.ref b10)])
    refine own_by (fun t_ k_ => XS.iloadN X13.here hx rfl (hb hby at_131) rfl k_) ?_
    show own_Go p e below _ T13 (mkF m 132 #[.val (.int p1), .val (.int p2), .val (.int p3), .val (.int p4), .val (.int u1), .val (.int u0), .val (.int u1), .val (.int u2), .val (.int u3), .val (.int ma), .val (.int mb), .val (.int af), .val (.int bf), .val (.ref b1), .unset, .unset, .unset, .unset, .unset, .unset, .unset] [(.int p3), (.int (3 : Int32)), (.ref b10), (.ref b10)])
    refine own_iastore X13 hx hZ e13 V13_0 3 (by decide) (Nat.le_of_ble_eq_true rfl) (hb hby at_132) ?_
    intro T14 h14 X14 e14 W14 A14
    have V14_0 : own_Arr Z h14 b10 .int [(.int p3), (.int p3), (.int p3), (.int p3), (.int (0 : Int32)), (.int (0 : Int32)), (.int (0 : Int32)), (.int (0 : Int32))] := A14
    have N14 := Fr.snoc X14 N13 g_b10
    have sz14 : n0 ≤ h14.size := Nat.le_trans sz13 (Keep.of_wr W14).1
    show own_Go p e below _ T14 (mkF m 133 #[.val (.int p1), .val (.int p2), .val (.int p3), .val (.int p4), .val (.int u1), .val (.int u0), .val (.int u1), .val (.int u2), .val (.int u3), .val (.int ma), .val (.int mb), .val (.int af), .val (.int bf), .val (.ref b1), .unset, .unset, .unset, .unset, .unset, .unset, .unset] [(.ref b10)])
    refine own_by (fun t_ k_ => XS.dup X14.here hx rfl (hb hby at_133) rfl rfl k_) ?_
    show own_Go p e below _ T14 (mkF m 134 #[.val (.int p1), .val (.int p2), .val (.int p3), .val (.int p4), .val (.int u1), .val (.int u0), .val (.int u1), .val (.int u2), .val (.int u3), .val (.int ma), .val (.int mb), .val (.int af), .val (.int bf), .val (.ref b1), .unset, .unset, .unset, .unset, .unset, .unset, .unset] [(.ref b10), (.ref b10)])
    refine own_by (fun t_ k_ => XS.iconst X14.here hx rfl (hb hby at_134) k_) ?_
    show own_Go p e below _ T14 (mkF m 135 #[.val (.int p1), .val (.int p2), .val (.int p3), .val (.int p4), .val (.int u1), .val (.int u0), .val (.int u1), .val (.int u2), .val (.int u3), .val (.int ma), .val (.int mb), .val (.int af), .val (.int bf), .val (.ref b1), .unset, .unset, .unset, .unset, .unset, .unset, .unset] [(.int (4 : Int32)), (.ref b10), (.ref b10)])
    refine own_by (fun t_ k_ => XS.iloadN X14.here hx rfl (hb hby at_135) rfl k_) ?_
    show own_Go p e below _ T14 (mkF m 136 #[.val (.int p1), .val (.int p2), .val (.int p3), .val (.int p4), .val (.int u1), .val (.int u0), .val (.int u1), .val (.int u2), .val (.int u3), .val (.int ma), .val (.int mb), .val (.int af), .val (.int bf), .val (.ref b1), .unset, .unset, .unset, .unset, .unset, .unset, .unset] [(.int p3), (.int (4 : Int32)), (.ref b10), (.ref b10)])
    refine own_iastore X14 hx hZ e14 V14_0 4 (by decide) (Nat.le_of_ble_eq_true rfl) (hb hby at_136) ?_
    intro T15 h15 X15 e15 W15 A15
    have V15_0 : own_Arr Z h15 b10 .int [(.int p3), (.int p3), (.int p3), (.int p3), (.int p3), (.int (0 : Int32)), (.int (0 : Int32)), (.int (0 : Int32))] := A15
    have N15 := Fr.snoc X15 N14 g_b10
    have sz15 : n0 ≤ h15.size := Nat.le_trans sz14 (Keep.of_wr W15).1
    show own_Go p e below _ T15 (mkF m 137 #[.val (.int p1), .val (.int p2), .val (.int p3), .val (.int p4), .val (.int u1), .val (.int u0), .val (.int u1), .val (.int u2), .val (.int u3), .val (.int ma), .val (.int mb), .val (.int af), .val (.int bf), .val (.ref b1), .unset, .unset, .unset, .unset, .unset, .unset, .unset] [(.ref b10)])
    refine own_by (fun t_ k_ => XS.dup X15.here hx rfl (hb hby at_137) rfl rfl k_) ?_
    show own_Go p e below _ T15 (mkF m 138 #[.val (.int p1), .val (.int p2), .val (.int p3), .val (.int p4), .val (.int u1), .val (.int u0), .val (.int u1), .val (.int u2), .val (.int u3), .val (.int ma), .val (.int mb), .val (.int af), .val (.int bf), .val (.ref b1), .unset, .unset, .unset, .unset, .unset, .unset, .unset] [(.ref b10), (.ref b10)])
    refine own_by (fun t_ k_ => XS.iconst X15.here hx rfl (hb hby at_138) k_) ?_
    show own_Go p e below _ T15 (mkF m 139 #[.val (.int p1), .val (.int p2), .val (.int p3), .val (.int p4), .val (.int u1), .val (.int u0), .val (.int u1), .val (.int u2), .val (.int u3), .val (.int ma), .val (.int mb), .val (.int af), .val (.int bf), .val (.ref b1), .unset, .unset, .unset, .unset, .unset, .unset, .unset] [(.int (5 : Int32)), (.ref b10), (.ref b10)])
    refine own_by (fun t_ k_ => XS.iloadN X15.here hx rfl (hb hby at_139) rfl k_) ?_
    show own_Go p e below _ T15 (mkF m 140 #[.val (.int p1), .val (.int p2), .val (.int p3), .val (.int p4), .val (.int u1), .val (.int u0), .val (.int u1), .val (.int u2), .val (.int u3), .val (.int ma), .val (.int mb), .val (.int af), .val (.int bf), .val (.ref b1), .unset, .unset, .unset, .unset, .unset, .unset, .unset] [(.int p3), (.int (5 : Int32)), (.ref b10), (.ref b10)])
    refine own_iastore X15 hx hZ e15 V15_0 5 (by decide) (Nat.le_of_ble_eq_true rfl) (hb hby at_140) ?_
    intro T16 h16 X16 e16 W16 A16
    have V16_0 : own_Arr Z h16 b10 .int [(.int p3), (.int p3), (.int p3), (.int p3), (.int p3), (.int p3), (.int (0 : Int32)), (.int (0 : Int32))] := A16
    have N16 := Fr.snoc X16 N15 g_b10
    have sz16 : n0 ≤ h16.size := Nat.le_trans sz15 (Keep.of_wr W16).1
    show own_Go p e below _ T16 (mkF m 141 #[.val (.int p1), .val (.int p2), .val (.int p3), .val (.int p4), .val (.int u1), .val (.int u0), .val (.int u1), .val (.int u2), .val (.int u3), .val (.int ma), .val (.int mb), .val (.int af), .val (.int bf), .val (.ref b1), .unset, .unset, .unset, .unset, .unset, .unset, .unset] [(.ref b10)])
    refine own_by (fun t_ k_ => XS.dup X16.here hx rfl (hb hby at_141) rfl rfl k_) ?_
    show own_Go p e below _ T16 (mkF m 142 #[.val (.int p1), .val (.int p2), .val (.int p3), .val (.int p4), .val (.int u1), .val (.int u0), .val (.int u1), .val (.int u2), .val (.int u3), .val (.int ma), .val (.int mb), .val (.int af), .val (.int bf), .val (.ref b1), .unset, .unset, .unset, .unset, .unset, .unset, .unset] [(.ref b10), (.ref b10)])
    refine own_by (fun t_ k_ => XS.bipush X16.here hx rfl (hb hby at_142) k_) ?_
    show own_Go p e below _ T16 (mkF m 144 #[.val (.int p1), .val (.int p2), .val (.int p3), .val (.int p4), .val (.int u1), .val (.int u0), .val (.int u1), .val (.int u2), .val (.int u3), .val (.int ma), .val (.int mb), .val (.int af), .val (.int bf), .val (.ref b1), .unset, .unset, .unset, .unset, .unset, .unset, .unset] [(.int (6 : Int32)), (.ref b10), (.ref b10)])
    refine own_by (fun t_ k_ => XS.iloadN X16.here hx rfl (hb hby at_144) rfl k_) ?_
    show own_Go p e below _ T16 (mkF m 145 #[.val (.int p1), .val (.int p2), .val (.int p3), .val (.int p4), .val (.int u1), .val (.int u0), .val (.int u1), .val (.int u2), .val (.int u3), .val (.int ma), .val (.int mb), .val (.int af), .val (.int bf), .val (.ref b1), .unset, .unset, .unset, .unset, .unset, .unset, .unset] [(.int p3), (.int (6 : Int32)), (.ref b10), (.ref b10)])
    refine own_iastore X16 hx hZ e16 V16_0 6 (by decide) (Nat.le_of_ble_eq_true rfl) (hb hby at_145) ?_
    intro T17 h17 X17 e17 W17 A17
    have V17_0 : own_Arr Z h17 b10 .int [(.int p3), (.int p3), (.int p3), (.int p3), (.int p3), (.int p3), (.int p3), (.int (0 : Int32))] := A17
    have N17 := Fr.snoc X17 N16 g_b10
    have sz17 : n0 ≤ h17.size := Nat.le_trans sz16 (Keep.of_wr W17).1
    show own_Go p e below _ T17 (mkF m 146 #[.val (.int p1), .val (.int p2), .val (.int p3), .val (.int p4), .val (.int u1), .val (.int u0), .val (.int u1), .val (.int u2), .val (.int u3), .val (.int ma), .val (.int mb), .val (.int af), .val (.int bf), .val (.ref b1), .unset, .unset, .unset, .unset, .unset, .unset, .unset] [(.ref b10)])
    refine own_by (fun t_ k_ => XS.dup X17.here hx rfl (hb hby at_146) rfl rfl k_) ?_
    show own_Go p e below _ T17 (mkF m 147 #[.val (.int p1), .val (.int p2), .val (.int p3), .val (.int p4), .val (.int u1), .val (.int u0), .val (.int u1), .val (.int u2), .val (.int u3), .val (.int ma), .val (.int mb), .val (.int af), .val (.int bf), .val (.ref b1), .unset, .unset, .unset, .unset, .unset, .unset, .unset] [(.ref b10), (.ref b10)])
    refine own_by (fun t_ k_ => XS.bipush X17.here hx rfl (hb hby at_147) k_) ?_
    show own_Go p e below _ T17 (mkF m 149 #[.val (.int p1), .val (.int p2), .val (.int p3), .val (.int p4), .val (.int u1), .val (.int u0), .val (.int u1), .val (.int u2), .val (.int u3), .val (.int ma), .val (.int mb), .val (.int af), .val (.int bf), .val (.ref b1), .unset, .unset, .unset, .unset, .unset, .unset, .unset] [(.int (7 : Int32)), (.ref b10), (.ref b10)])
    refine own_by (fun t_ k_ => XS.iloadN X17.here hx rfl (hb hby at_149) rfl k_) ?_
    show own_Go p e below _ T17 (mkF m 150 #[.val (.int p1), .val (.int p2), .val (.int p3), .val (.int p4), .val (.int u1), .val (.int u0), .val (.int u1), .val (.int u2), .val (.int u3), .val (.int ma), .val (.int mb), .val (.int af), .val (.int bf), .val (.ref b1), .unset, .unset, .unset, .unset, .unset, .unset, .unset] [(.int p3), (.int (7 : Int32)), (.ref b10), (.ref b10)])
    refine own_iastore X17 hx hZ e17 V17_0 7 (by decide) (Nat.le_of_ble_eq_true rfl) (hb hby at_150) ?_
    intro T18 h18 X18 e18 W18 A18
    have V18_0 : own_Arr Z h18 b10 .int [(.int p3), (.int p3), (.int p3), (.int p3), (.int p3), (.int p3), (.int p3), (.int p3)] := A18
    have N18 := Fr.snoc X18 N17 g_b10
    have sz18 : n0 ≤ h18.size := Nat.le_trans sz17 (Keep.of_wr W18).1
    show own_Go p e below _ T18 (mkF m 151 #[.val (.int p1), .val (.int p2), .val (.int p3), .val (.int p4), .val (.int u1), .val (.int u0), .val (.int u1), .val (.int u2), .val (.int u3), .val (.int ma), .val (.int mb), .val (.int af), .val (.int bf), .val (.ref b1), .unset, .unset, .unset, .unset, .unset, .unset, .unset] [(.ref b10)])
    refine own_by (fun t_ k_ => XS.astore X18.here hx rfl (hb hby at_151) rfl rfl (l' := #[.val (.int p1), .val (.int p2), .val (.int p3), .val (.int p4), .val (.int u1), .val (.int u0), .val (.int u1), .val (.int u2), .val (.int u3), .val (.int ma), .val (.int mb), .val (.int af), .val (.int bf), .val (.ref b1), .val (.ref b10), .unset, .unset, .unset, .unset, .unset, .unset]) rfl k_) ?_
    show own_Go p e below _ T18 (mkF m 153 #[.val (.int p1), .val (.int p2), .val (.int p3), .val (.int p4), .val (.int u1), .val (.int u0), .val (.int u1), .val (.int u2), .val (.int u3), .val (.int ma), .val (.int mb), .val (.int af), .val (.int bf), .val (.ref b1), .val (.ref b10), .unset, .unset, .unset, .unset, .unset, .unset] [])
    refine own_by (fun t_ k_ => XS.aload X18.here hx rfl (hb hby at_153) rfl rfl k_) ?_
    show own_Go p e below _ T18 (mkF m 155 #[.val (.int p1), .val (.int p2), .val (.int p3), .val (.int p4), .val (.int u1), .val (.int u0), .val (.int u1), .val (.int u2), .val (.int u3), .val (.int ma), .val (.int mb), .val (.int af), .val (.int bf), .val (.ref b1), .val (.ref b10), .unset, .unset, .unset, .unset, .unset, .unset] [(.ref b1)])
    refine own_by (fun t_ k_ => XS.iload X18.here hx rfl (hb hby at_155) rfl k_) ?_
    show own_Go p e below _ T18 (mkF m 157 #[.val (.int p1), .val (.int p2), .val (.int p3), .val (.int p4), .val (.int u1), .val (.int u0), .val (.int u1), .val (.int u2), .val (.int u3), .val (.int ma), .val (.int mb), .val (.int af), .val (.int bf), .val (.ref b1), .val (.ref b10), .unset, .unset, .unset, .unset, .unset, .unset] [(.int af), (.ref b1)])
    refine own_by (fun t_ k_ => XS.iload X18.here hx rfl (hb hby at_157) rfl k_) ?_
    show own_Go p e below _ T18 (mkF m 159 #[.val (.int p1), .val (.int p2), .val (.int p3), .val (.int p4), .val (.int u1), .val (.int u0), .val (.int u1), .val (.int u2), .val (.int u3), .val (.int ma), .val (.int mb), .val (.int af), .val (.int bf), .val (.ref b1), .val (.ref b10), .unset, .unset, .unset, .unset, .unset, .unset] [(.int ma), (.int af), (.ref b1)])
    refine own_by (fun t_ k_ => XS.iload X18.here hx rfl (hb hby at_159) rfl k_) ?_
    show own_Go p e below _ T18 (mkF m 161 #[.val (.int p1), .val (.int p2), .val (.int p3), .val (.int p4), .val (.int u1), .val (.int u0), .val (.int u1), .val (.int u2), .val (.int u3), .val (.int ma), .val (.int mb), .val (.int af), .val (.int bf), .val (.ref b1), .val (.ref b10), .unset, .unset, .unset, .unset, .unset, .unset] [(.int u0), (.int ma), (.int af), (.ref b1)])
    refine own_by (fun t_ k_ => XS.iload X18.here hx rfl (hb hby at_161) rfl k_) ?_
    show own_Go p e below _ T18 (mkF m 163 #[.val (.int p1), .val (.int p2), .val (.int p3), .val (.int p4), .val (.int u1), .val (.int u0), .val (.int u1), .val (.int u2), .val (.int u3), .val (.int ma), .val (.int mb), .val (.int af), .val (.int bf), .val (.ref b1), .val (.ref b10), .unset, .unset, .unset, .unset, .unset, .unset] [(.int u1), (.int u0), (.int ma), (.int af), (.ref b1)])
    refine own_by (fun t_ k_ => XS.iload X18.here hx rfl (hb hby at_163) rfl k_) ?_
    show own_Go p e below _ T18 (mkF m 165 #[.val (.int p1), .val (.int p2), .val (.int p3), .val (.int p4), .val (.int u1), .val (.int u0), .val (.int u1), .val (.int u2), .val (.int u3), .val (.int ma), .val (.int mb), .val (.int af), .val (.int bf), .val (.ref b1), .val (.ref b10), .unset, .unset, .unset, .unset, .unset, .unset] [(.int u2), (.int u1), (.int u0), (.int ma), (.int af), (.ref b1)])
    refine own_by (fun t_ k_ => XS.iload X18.here hx rfl (hb hby at_165) rfl k_) ?_
    show own_Go p e below _ T18 (mkF m 167 #[.val (.int p1), .val (.int p2), .val (.int p3), .val (.int p4), .val (.int u1), .val (.int u0), .val (.int u1), .val (.int u2), .val (.int u3), .val (.int ma), .val (.int mb), .val (.int af), .val (.int bf), .val (.ref b1), .val (.ref b10), .unset, .unset, .unset, .unset, .unset, .unset] [(.int u3), (.int u2), (.int u1), (.int u0), (.int ma), (.int af), (.ref b1)])
    have V9_19 : own_Arr Z h18 b1 .int [(.int p3), (.int p3), (.int p3), (.int p3), (.int p3), (.int p3), (.int p3), (.int p3)] := (own_Arr.other (own_Arr.other (own_Arr.other (own_Arr.other (own_Arr.other (own_Arr.other (own_Arr.other (own_Arr.other (own_Arr.ext V9_0 E10) W11 (Nat.ne_of_lt lt_b1_b10)) W12 (Nat.ne_of_lt lt_b1_b10)) W13 (Nat.ne_of_lt lt_b1_b10)) W14 (Nat.ne_of_lt lt_b1_b10)) W15 (Nat.ne_of_lt lt_b1_b10)) W16 (Nat.ne_of_lt lt_b1_b10)) W17 (Nat.ne_of_lt lt_b1_b10)) W18 (Nat.ne_of_lt lt_b1_b10))
    refine own_callS (W := 0) X18 hx hZ (y := (⟨"com/example/valuation/valuation/provenance/MonomialUnionPinLaw", "place", "([IIIIIII)I"⟩ : MethodName)) hown (hw _ (List.mem_of_getElem? (i := 4) rfl)) (hw _ (List.mem_of_getElem? (i := 5) rfl)) (hw _ (List.mem_of_getElem? (i := 6) rfl)) (hw _ (List.mem_of_getElem? (i := 7) rfl)) (by decide) (by rw [hml]; rfl) (argsL := [(.ref b1), (.int af), (.int ma), (.int u0), (.int u1), (.int u2), (.int u3)]) pd_0 rfl (rm1 l Z a0 hw [] b1 af ma u0 u1 u2 u3 fa [(.int p3), (.int p3), (.int p3), (.int p3), (.int p3), (.int p3), (.int p3), (.int p3)] h18 n0 sz18 V9_19 g_b1 hfa.2 (by simp <;> omega) (by simp)) (by decide) (by decide) (Nat.le_of_eq rfl) (by decide) (by decide) (rest := []) e18 rfl (hb hby at_167) ?_
    intro v20 T20 L20 X20 hQ20
    obtain ⟨r20, rfl, hr20, N20q, K20, A20⟩ := hQ20
    have N20 := Fr.app N18 N20q
    have sz20 : n0 ≤ T20.heap.size := Nat.le_trans sz18 K20.1
    show own_Go p e below _ T20 (mkF m 170 #[.val (.int p1), .val (.int p2), .val (.int p3), .val (.int p4), .val (.int u1), .val (.int u0), .val (.int u1), .val (.int u2), .val (.int u3), .val (.int ma), .val (.int mb), .val (.int af), .val (.int bf), .val (.ref b1), .val (.ref b10), .unset, .unset, .unset, .unset, .unset, .unset] [(.int r20)])
    refine own_by (fun t_ k_ => XS.istore X20.here hx rfl (hb hby at_170) rfl (l' := #[.val (.int p1), .val (.int p2), .val (.int p3), .val (.int p4), .val (.int u1), .val (.int u0), .val (.int u1), .val (.int u2), .val (.int u3), .val (.int ma), .val (.int mb), .val (.int af), .val (.int bf), .val (.ref b1), .val (.ref b10), .val (.int r20), .unset, .unset, .unset, .unset, .unset]) rfl k_) ?_
    show own_Go p e below _ T20 (mkF m 172 #[.val (.int p1), .val (.int p2), .val (.int p3), .val (.int p4), .val (.int u1), .val (.int u0), .val (.int u1), .val (.int u2), .val (.int u3), .val (.int ma), .val (.int mb), .val (.int af), .val (.int bf), .val (.ref b1), .val (.ref b10), .val (.int r20), .unset, .unset, .unset, .unset, .unset] [])
    refine own_by (fun t_ k_ => XS.aload X20.here hx rfl (hb hby at_172) rfl rfl k_) ?_
    show own_Go p e below _ T20 (mkF m 174 #[.val (.int p1), .val (.int p2), .val (.int p3), .val (.int p4), .val (.int u1), .val (.int u0), .val (.int u1), .val (.int u2), .val (.int u3), .val (.int ma), .val (.int mb), .val (.int af), .val (.int bf), .val (.ref b1), .val (.ref b10), .val (.int r20), .unset, .unset, .unset, .unset, .unset] [(.ref b10)])
    refine own_by (fun t_ k_ => XS.iload X20.here hx rfl (hb hby at_174) rfl k_) ?_
    show own_Go p e below _ T20 (mkF m 176 #[.val (.int p1), .val (.int p2), .val (.int p3), .val (.int p4), .val (.int u1), .val (.int u0), .val (.int u1), .val (.int u2), .val (.int u3), .val (.int ma), .val (.int mb), .val (.int af), .val (.int bf), .val (.ref b1), .val (.ref b10), .val (.int r20), .unset, .unset, .unset, .unset, .unset] [(.int bf), (.ref b10)])
    refine own_by (fun t_ k_ => XS.iload X20.here hx rfl (hb hby at_176) rfl k_) ?_
    show own_Go p e below _ T20 (mkF m 178 #[.val (.int p1), .val (.int p2), .val (.int p3), .val (.int p4), .val (.int u1), .val (.int u0), .val (.int u1), .val (.int u2), .val (.int u3), .val (.int ma), .val (.int mb), .val (.int af), .val (.int bf), .val (.ref b1), .val (.ref b10), .val (.int r20), .unset, .unset, .unset, .unset, .unset] [(.int mb), (.int bf), (.ref b10)])
    refine own_by (fun t_ k_ => XS.iload X20.here hx rfl (hb hby at_178) rfl k_) ?_
    show own_Go p e below _ T20 (mkF m 180 #[.val (.int p1), .val (.int p2), .val (.int p3), .val (.int p4), .val (.int u1), .val (.int u0), .val (.int u1), .val (.int u2), .val (.int u3), .val (.int ma), .val (.int mb), .val (.int af), .val (.int bf), .val (.ref b1), .val (.ref b10), .val (.int r20), .unset, .unset, .unset, .unset, .unset] [(.int u0), (.int mb), (.int bf), (.ref b10)])
    refine own_by (fun t_ k_ => XS.iload X20.here hx rfl (hb hby at_180) rfl k_) ?_
    show own_Go p e below _ T20 (mkF m 182 #[.val (.int p1), .val (.int p2), .val (.int p3), .val (.int p4), .val (.int u1), .val (.int u0), .val (.int u1), .val (.int u2), .val (.int u3), .val (.int ma), .val (.int mb), .val (.int af), .val (.int bf), .val (.ref b1), .val (.ref b10), .val (.int r20), .unset, .unset, .unset, .unset, .unset] [(.int u1), (.int u0), (.int mb), (.int bf), (.ref b10)])
    refine own_by (fun t_ k_ => XS.iload X20.here hx rfl (hb hby at_182) rfl k_) ?_
    show own_Go p e below _ T20 (mkF m 184 #[.val (.int p1), .val (.int p2), .val (.int p3), .val (.int p4), .val (.int u1), .val (.int u0), .val (.int u1), .val (.int u2), .val (.int u3), .val (.int ma), .val (.int mb), .val (.int af), .val (.int bf), .val (.ref b1), .val (.ref b10), .val (.int r20), .unset, .unset, .unset, .unset, .unset] [(.int u2), (.int u1), (.int u0), (.int mb), (.int bf), (.ref b10)])
    refine own_by (fun t_ k_ => XS.iload X20.here hx rfl (hb hby at_184) rfl k_) ?_
    show own_Go p e below _ T20 (mkF m 186 #[.val (.int p1), .val (.int p2), .val (.int p3), .val (.int p4), .val (.int u1), .val (.int u0), .val (.int u1), .val (.int u2), .val (.int u3), .val (.int ma), .val (.int mb), .val (.int af), .val (.int bf), .val (.ref b1), .val (.ref b10), .val (.int r20), .unset, .unset, .unset, .unset, .unset] [(.int u3), (.int u2), (.int u1), (.int u0), (.int mb), (.int bf), (.ref b10)])
    have V18_21 : own_Arr Z T20.heap b10 .int [(.int p3), (.int p3), (.int p3), (.int p3), (.int p3), (.int p3), (.int p3), (.int p3)] := (own_Arr.keep V18_0 K20 (ninS (Ne.symm (Nat.ne_of_lt lt_b1_b10)) nin0))
    refine own_callS (W := 0) X20 hx hZ (y := (⟨"com/example/valuation/valuation/provenance/MonomialUnionPinLaw", "place", "([IIIIIII)I"⟩ : MethodName)) hown (hw _ (List.mem_of_getElem? (i := 4) rfl)) (hw _ (List.mem_of_getElem? (i := 5) rfl)) (hw _ (List.mem_of_getElem? (i := 6) rfl)) (hw _ (List.mem_of_getElem? (i := 7) rfl)) (by decide) (by rw [hml]; rfl) (argsL := [(.ref b10), (.int bf), (.int mb), (.int u0), (.int u1), (.int u2), (.int u3)]) pd_0 rfl (rm1 l Z a0 hw [] b10 bf mb u0 u1 u2 u3 fb [(.int p3), (.int p3), (.int p3), (.int p3), (.int p3), (.int p3), (.int p3), (.int p3)] T20.heap n0 sz20 V18_21 g_b10 hfb.2 (by simp <;> omega) (by simp)) (by decide) (by decide) (Nat.le_of_eq rfl) (by decide) (by decide) (rest := []) rfl rfl (hb hby at_186) ?_
    intro v22 T22 L22 X22 hQ22
    obtain ⟨r22, rfl, hr22, N22q, K22, A22⟩ := hQ22
    have N22 := Fr.app N20 N22q
    have sz22 : n0 ≤ T22.heap.size := Nat.le_trans sz20 K22.1
    show own_Go p e below _ T22 (mkF m 189 #[.val (.int p1), .val (.int p2), .val (.int p3), .val (.int p4), .val (.int u1), .val (.int u0), .val (.int u1), .val (.int u2), .val (.int u3), .val (.int ma), .val (.int mb), .val (.int af), .val (.int bf), .val (.ref b1), .val (.ref b10), .val (.int r20), .unset, .unset, .unset, .unset, .unset] [(.int r22)])
    refine own_by (fun t_ k_ => XS.istore X22.here hx rfl (hb hby at_189) rfl (l' := #[.val (.int p1), .val (.int p2), .val (.int p3), .val (.int p4), .val (.int u1), .val (.int u0), .val (.int u1), .val (.int u2), .val (.int u3), .val (.int ma), .val (.int mb), .val (.int af), .val (.int bf), .val (.ref b1), .val (.ref b10), .val (.int r20), .val (.int r22), .unset, .unset, .unset, .unset]) rfl k_) ?_
    show own_Go p e below _ T22 (mkF m 191 #[.val (.int p1), .val (.int p2), .val (.int p3), .val (.int p4), .val (.int u1), .val (.int u0), .val (.int u1), .val (.int u2), .val (.int u3), .val (.int ma), .val (.int mb), .val (.int af), .val (.int bf), .val (.ref b1), .val (.ref b10), .val (.int r20), .val (.int r22), .unset, .unset, .unset, .unset] [])
    refine own_by (fun t_ k_ => XS.bipush X22.here hx rfl (hb hby at_191) k_) ?_
    show own_Go p e below _ T22 (mkF m 193 #[.val (.int p1), .val (.int p2), .val (.int p3), .val (.int p4), .val (.int u1), .val (.int u0), .val (.int u1), .val (.int u2), .val (.int u3), .val (.int ma), .val (.int mb), .val (.int af), .val (.int bf), .val (.ref b1), .val (.ref b10), .val (.int r20), .val (.int r22), .unset, .unset, .unset, .unset] [(.int (8 : Int32))])
    refine own_newP X22 hx hZ (hw _ (List.mem_of_getElem? (i := 3) rfl)) rfl (hb hby at_193) 8 8 (by decide) (by decide) (by decide) (by decide) (by decide) ?_
    intro T23 h23 b23 X23 e23 g23 E23 A23
    have A20_24 : own_Arr Z T22.heap b1 .int (own_put [(.int p3), (.int p3), (.int p3), (.int p3), (.int p3), (.int p3), (.int p3), (.int p3)] fa (own_sel ma u0 u1 u2 u3)) := (own_Arr.keep A20 K22 (ninS (Nat.ne_of_lt lt_b1_b10) nin0))
    have lt_b1_b23 : b1 < b23 := Nat.lt_of_lt_of_le A20_24.lt (Nat.le_of_eq g23.symm)
    have lt_b10_b23 : b10 < b23 := Nat.lt_of_lt_of_le A22.lt (Nat.le_of_eq g23.symm)
    have g_b23 : n0 ≤ b23 := Nat.le_trans sz22 (Nat.le_of_eq g23.symm)
    have sz23 : n0 ≤ h23.size := Nat.le_trans sz22 E23.1
    have V23_0 : own_Arr Z h23 b23 .int [(.int (0 : Int32)), (.int (0 : Int32)), (.int (0 : Int32)), (.int (0 : Int32)), (.int (0 : Int32)), (.int (0 : Int32)), (.int (0 : Int32)), (.int (0 : Int32))] := A23
    show own_Go p e below _ T23 (mkF m 195 #[.val (.int p1), .val (.int p2), .val (.int p3), .val (.int p4), .val (.int u1), .val (.int u0), .val (.int u1), .val (.int u2), .val (.int u3), .val (.int ma), .val (.int mb), .val (.int af), .val (.int bf), .val (.ref b1), .val (.ref b10), .val (.int r20), .val (.int r22), .unset, .unset, .unset, .unset] [(.ref b23)])
    refine own_by (fun t_ k_ => XS.dup X23.here hx rfl (hb hby at_195) rfl rfl k_) ?_
    show own_Go p e below _ T23 (mkF m 196 #[.val (.int p1), .val (.int p2), .val (.int p3), .val (.int p4), .val (.int u1), .val (.int u0), .val (.int u1), .val (.int u2), .val (.int u3), .val (.int ma), .val (.int mb), .val (.int af), .val (.int bf), .val (.ref b1), .val (.ref b10), .val (.int r20), .val (.int r22), .unset, .unset, .unset, .unset] [(.ref b23), (.ref b23)])
    refine own_by (fun t_ k_ => XS.iconst X23.here hx rfl (hb hby at_196) k_) ?_
    show own_Go p e below _ T23 (mkF m 197 #[.val (.int p1), .val (.int p2), .val (.int p3), .val (.int p4), .val (.int u1), .val (.int u0), .val (.int u1), .val (.int u2), .val (.int u3), .val (.int ma), .val (.int mb), .val (.int af), .val (.int bf), .val (.ref b1), .val (.ref b10), .val (.int r20), .val (.int r22), .unset, .unset, .unset, .unset] [(.int (0 : Int32)), (.ref b23), (.ref b23)])
    refine own_by (fun t_ k_ => XS.iloadN X23.here hx rfl (hb hby at_197) rfl k_) ?_
    show own_Go p e below _ T23 (mkF m 198 #[.val (.int p1), .val (.int p2), .val (.int p3), .val (.int p4), .val (.int u1), .val (.int u0), .val (.int u1), .val (.int u2), .val (.int u3), .val (.int ma), .val (.int mb), .val (.int af), .val (.int bf), .val (.ref b1), .val (.ref b10), .val (.int r20), .val (.int r22), .unset, .unset, .unset, .unset] [(.int p4), (.int (0 : Int32)), (.ref b23), (.ref b23)])
    refine own_iastore X23 hx hZ e23 V23_0 0 (by decide) (Nat.le_of_ble_eq_true rfl) (hb hby at_198) ?_
    intro T25 h25 X25 e25 W25 A25
    have V25_0 : own_Arr Z h25 b23 .int [(.int p4), (.int (0 : Int32)), (.int (0 : Int32)), (.int (0 : Int32)), (.int (0 : Int32)), (.int (0 : Int32)), (.int (0 : Int32)), (.int (0 : Int32))] := A25
    have N25 := Fr.snoc X25 N22 g_b23
    have sz25 : n0 ≤ h25.size := Nat.le_trans sz23 (Keep.of_wr W25).1
    show own_Go p e below _ T25 (mkF m 199 #[.val (.int p1), .val (.int p2), .val (.int p3), .val (.int p4), .val (.int u1), .val (.int u0), .val (.int u1), .val (.int u2), .val (.int u3), .val (.int ma), .val (.int mb), .val (.int af), .val (.int bf), .val (.ref b1), .val (.ref b10), .val (.int r20), .val (.int r22), .unset, .unset, .unset, .unset] [(.ref b23)])
    refine own_by (fun t_ k_ => XS.dup X25.here hx rfl (hb hby at_199) rfl rfl k_) ?_
    show own_Go p e below _ T25 (mkF m 200 #[.val (.int p1), .val (.int p2), .val (.int p3), .val (.int p4), .val (.int u1), .val (.int u0), .val (.int u1), .val (.int u2), .val (.int u3), .val (.int ma), .val (.int mb), .val (.int af), .val (.int bf), .val (.ref b1), .val (.ref b10), .val (.int r20), .val (.int r22), .unset, .unset, .unset, .unset] [(.ref b23), (.ref b23)])
    refine own_by (fun t_ k_ => XS.iconst X25.here hx rfl (hb hby at_200) k_) ?_
    show own_Go p e below _ T25 (mkF m 201 #[.val (.int p1), .val (.int p2), .val (.int p3), .val (.int p4), .val (.int u1), .val (.int u0), .val (.int u1), .val (.int u2), .val (.int u3), .val (.int ma), .val (.int mb), .val (.int af), .val (.int bf), .val (.ref b1), .val (.ref b10), .val (.int r20), .val (.int r22), .unset, .unset, .unset, .unset] [(.int (1 : Int32)), (.ref b23), (.ref b23)])
    refine own_by (fun t_ k_ => XS.iloadN X25.here hx rfl (hb hby at_201) rfl k_) ?_
    show own_Go p e below _ T25 (mkF m 202 #[.val (.int p1), .val (.int p2), .val (.int p3), .val (.int p4), .val (.int u1), .val (.int u0), .val (.int u1), .val (.int u2), .val (.int u3), .val (.int ma), .val (.int mb), .val (.int af), .val (.int bf), .val (.ref b1), .val (.ref b10), .val (.int r20), .val (.int r22), .unset, .unset, .unset, .unset] [(.int p4), (.int (1 : Int32)), (.ref b23), (.ref b23)])
    refine own_iastore X25 hx hZ e25 V25_0 1 (by decide) (Nat.le_of_ble_eq_true rfl) (hb hby at_202) ?_
    intro T26 h26 X26 e26 W26 A26
    have V26_0 : own_Arr Z h26 b23 .int [(.int p4), (.int p4), (.int (0 : Int32)), (.int (0 : Int32)), (.int (0 : Int32)), (.int (0 : Int32)), (.int (0 : Int32)), (.int (0 : Int32))] := A26
    have N26 := Fr.snoc X26 N25 g_b23
    have sz26 : n0 ≤ h26.size := Nat.le_trans sz25 (Keep.of_wr W26).1
    show own_Go p e below _ T26 (mkF m 203 #[.val (.int p1), .val (.int p2), .val (.int p3), .val (.int p4), .val (.int u1), .val (.int u0), .val (.int u1), .val (.int u2), .val (.int u3), .val (.int ma), .val (.int mb), .val (.int af), .val (.int bf), .val (.ref b1), .val (.ref b10), .val (.int r20), .val (.int r22), .unset, .unset, .unset, .unset] [(.ref b23)])
    refine own_by (fun t_ k_ => XS.dup X26.here hx rfl (hb hby at_203) rfl rfl k_) ?_
    show own_Go p e below _ T26 (mkF m 204 #[.val (.int p1), .val (.int p2), .val (.int p3), .val (.int p4), .val (.int u1), .val (.int u0), .val (.int u1), .val (.int u2), .val (.int u3), .val (.int ma), .val (.int mb), .val (.int af), .val (.int bf), .val (.ref b1), .val (.ref b10), .val (.int r20), .val (.int r22), .unset, .unset, .unset, .unset] [(.ref b23), (.ref b23)])
    refine own_by (fun t_ k_ => XS.iconst X26.here hx rfl (hb hby at_204) k_) ?_
    show own_Go p e below _ T26 (mkF m 205 #[.val (.int p1), .val (.int p2), .val (.int p3), .val (.int p4), .val (.int u1), .val (.int u0), .val (.int u1), .val (.int u2), .val (.int u3), .val (.int ma), .val (.int mb), .val (.int af), .val (.int bf), .val (.ref b1), .val (.ref b10), .val (.int r20), .val (.int r22), .unset, .unset, .unset, .unset] [(.int (2 : Int32)), (.ref b23), (.ref b23)])
    refine own_by (fun t_ k_ => XS.iloadN X26.here hx rfl (hb hby at_205) rfl k_) ?_
    show own_Go p e below _ T26 (mkF m 206 #[.val (.int p1), .val (.int p2), .val (.int p3), .val (.int p4), .val (.int u1), .val (.int u0), .val (.int u1), .val (.int u2), .val (.int u3), .val (.int ma), .val (.int mb), .val (.int af), .val (.int bf), .val (.ref b1), .val (.ref b10), .val (.int r20), .val (.int r22), .unset, .unset, .unset, .unset] [(.int p4), (.int (2 : Int32)), (.ref b23), (.ref b23)])
    refine own_iastore X26 hx hZ e26 V26_0 2 (by decide) (Nat.le_of_ble_eq_true rfl) (hb hby at_206) ?_
    intro T27 h27 X27 e27 W27 A27
    have V27_0 : own_Arr Z h27 b23 .int [(.int p4), (.int p4), (.int p4), (.int (0 : Int32)), (.int (0 : Int32)), (.int (0 : Int32)), (.int (0 : Int32)), (.int (0 : Int32))] := A27
    have N27 := Fr.snoc X27 N26 g_b23
    have sz27 : n0 ≤ h27.size := Nat.le_trans sz26 (Keep.of_wr W27).1
    show own_Go p e below _ T27 (mkF m 207 #[.val (.int p1), .val (.int p2), .val (.int p3), .val (.int p4), .val (.int u1), .val (.int u0), .val (.int u1), .val (.int u2), .val (.int u3), .val (.int ma), .val (.int mb), .val (.int af), .val (.int bf), .val (.ref b1), .val (.ref b10), .val (.int r20), .val (.int r22), .unset, .unset, .unset, .unset] [(.ref b23)])
    refine own_by (fun t_ k_ => XS.dup X27.here hx rfl (hb hby at_207) rfl rfl k_) ?_
    show own_Go p e below _ T27 (mkF m 208 #[.val (.int p1), .val (.int p2), .val (.int p3), .val (.int p4), .val (.int u1), .val (.int u0), .val (.int u1), .val (.int u2), .val (.int u3), .val (.int ma), .val (.int mb), .val (.int af), .val (.int bf), .val (.ref b1), .val (.ref b10), .val (.int r20), .val (.int r22), .unset, .unset, .unset, .unset] [(.ref b23), (.ref b23)])
    refine own_by (fun t_ k_ => XS.iconst X27.here hx rfl (hb hby at_208) k_) ?_
    show own_Go p e below _ T27 (mkF m 209 #[.val (.int p1), .val (.int p2), .val (.int p3), .val (.int p4), .val (.int u1), .val (.int u0), .val (.int u1), .val (.int u2), .val (.int u3), .val (.int ma), .val (.int mb), .val (.int af), .val (.int bf), .val (.ref b1), .val (.ref b10), .val (.int r20), .val (.int r22), .unset, .unset, .unset, .unset] [(.int (3 : Int32)), (.ref b23), (.ref b23)])
    refine own_by (fun t_ k_ => XS.iloadN X27.here hx rfl (hb hby at_209) rfl k_) ?_
    show own_Go p e below _ T27 (mkF m 210 #[.val (.int p1), .val (.int p2), .val (.int p3), .val (.int p4), .val (.int u1), .val (.int u0), .val (.int u1), .val (.int u2), .val (.int u3), .val (.int ma), .val (.int mb), .val (.int af), .val (.int bf), .val (.ref b1), .val (.ref b10), .val (.int r20), .val (.int r22), .unset, .unset, .unset, .unset] [(.int p4), (.int (3 : Int32)), (.ref b23), (.ref b23)])
    refine own_iastore X27 hx hZ e27 V27_0 3 (by decide) (Nat.le_of_ble_eq_true rfl) (hb hby at_210) ?_
    intro T28 h28 X28 e28 W28 A28
    have V28_0 : own_Arr Z h28 b23 .int [(.int p4), (.int p4), (.int p4), (.int p4), (.int (0 : Int32)), (.int (0 : Int32)), (.int (0 : Int32)), (.int (0 : Int32))] := A28
    have N28 := Fr.snoc X28 N27 g_b23
    have sz28 : n0 ≤ h28.size := Nat.le_trans sz27 (Keep.of_wr W28).1
    show own_Go p e below _ T28 (mkF m 211 #[.val (.int p1), .val (.int p2), .val (.int p3), .val (.int p4), .val (.int u1), .val (.int u0), .val (.int u1), .val (.int u2), .val (.int u3), .val (.int ma), .val (.int mb), .val (.int af), .val (.int bf), .val (.ref b1), .val (.ref b10), .val (.int r20), .val (.int r22), .unset, .unset, .unset, .unset] [(.ref b23)])
    refine own_by (fun t_ k_ => XS.dup X28.here hx rfl (hb hby at_211) rfl rfl k_) ?_
    show own_Go p e below _ T28 (mkF m 212 #[.val (.int p1), .val (.int p2), .val (.int p3), .val (.int p4), .val (.int u1), .val (.int u0), .val (.int u1), .val (.int u2), .val (.int u3), .val (.int ma), .val (.int mb), .val (.int af), .val (.int bf), .val (.ref b1), .val (.ref b10), .val (.int r20), .val (.int r22), .unset, .unset, .unset, .unset] [(.ref b23), (.ref b23)])
    refine own_by (fun t_ k_ => XS.iconst X28.here hx rfl (hb hby at_212) k_) ?_
    show own_Go p e below _ T28 (mkF m 213 #[.val (.int p1), .val (.int p2), .val (.int p3), .val (.int p4), .val (.int u1), .val (.int u0), .val (.int u1), .val (.int u2), .val (.int u3), .val (.int ma), .val (.int mb), .val (.int af), .val (.int bf), .val (.ref b1), .val (.ref b10), .val (.int r20), .val (.int r22), .unset, .unset, .unset, .unset] [(.int (4 : Int32)), (.ref b23), (.ref b23)])
    refine own_by (fun t_ k_ => XS.iloadN X28.here hx rfl (hb hby at_213) rfl k_) ?_
    show own_Go p e below _ T28 (mkF m 214 #[.val (.int p1), .val (.int p2), .val (.int p3), .val (.int p4), .val (.int u1), .val (.int u0), .val (.int u1), .val (.int u2), .val (.int u3), .val (.int ma), .val (.int mb), .val (.int af), .val (.int bf), .val (.ref b1), .val (.ref b10), .val (.int r20), .val (.int r22), .unset, .unset, .unset, .unset] [(.int p4), (.int (4 : Int32)), (.ref b23), (.ref b23)])
    refine own_iastore X28 hx hZ e28 V28_0 4 (by decide) (Nat.le_of_ble_eq_true rfl) (hb hby at_214) ?_
    intro T29 h29 X29 e29 W29 A29
    have V29_0 : own_Arr Z h29 b23 .int [(.int p4), (.int p4), (.int p4), (.int p4), (.int p4), (.int (0 : Int32)), (.int (0 : Int32)), (.int (0 : Int32))] := A29
    have N29 := Fr.snoc X29 N28 g_b23
    have sz29 : n0 ≤ h29.size := Nat.le_trans sz28 (Keep.of_wr W29).1
    show own_Go p e below _ T29 (mkF m 215 #[.val (.int p1), .val (.int p2), .val (.int p3), .val (.int p4), .val (.int u1), .val (.int u0), .val (.int u1), .val (.int u2), .val (.int u3), .val (.int ma), .val (.int mb), .val (.int af), .val (.int bf), .val (.ref b1), .val (.ref b10), .val (.int r20), .val (.int r22), .unset, .unset, .unset, .unset] [(.ref b23)])
    refine own_by (fun t_ k_ => XS.dup X29.here hx rfl (hb hby at_215) rfl rfl k_) ?_
    show own_Go p e below _ T29 (mkF m 216 #[.val (.int p1), .val (.int p2), .val (.int p3), .val (.int p4), .val (.int u1), .val (.int u0), .val (.int u1), .val (.int u2), .val (.int u3), .val (.int ma), .val (.int mb), .val (.int af), .val (.int bf), .val (.ref b1), .val (.ref b10), .val (.int r20), .val (.int r22), .unset, .unset, .unset, .unset] [(.ref b23), (.ref b23)])
    refine own_by (fun t_ k_ => XS.iconst X29.here hx rfl (hb hby at_216) k_) ?_
    show own_Go p e below _ T29 (mkF m 217 #[.val (.int p1), .val (.int p2), .val (.int p3), .val (.int p4), .val (.int u1), .val (.int u0), .val (.int u1), .val (.int u2), .val (.int u3), .val (.int ma), .val (.int mb), .val (.int af), .val (.int bf), .val (.ref b1), .val (.ref b10), .val (.int r20), .val (.int r22), .unset, .unset, .unset, .unset] [(.int (5 : Int32)), (.ref b23), (.ref b23)])
    refine own_by (fun t_ k_ => XS.iloadN X29.here hx rfl (hb hby at_217) rfl k_) ?_
    show own_Go p e below _ T29 (mkF m 218 #[.val (.int p1), .val (.int p2), .val (.int p3), .val (.int p4), .val (.int u1), .val (.int u0), .val (.int u1), .val (.int u2), .val (.int u3), .val (.int ma), .val (.int mb), .val (.int af), .val (.int bf), .val (.ref b1), .val (.ref b10), .val (.int r20), .val (.int r22), .unset, .unset, .unset, .unset] [(.int p4), (.int (5 : Int32)), (.ref b23), (.ref b23)])
    refine own_iastore X29 hx hZ e29 V29_0 5 (by decide) (Nat.le_of_ble_eq_true rfl) (hb hby at_218) ?_
    intro T30 h30 X30 e30 W30 A30
    have V30_0 : own_Arr Z h30 b23 .int [(.int p4), (.int p4), (.int p4), (.int p4), (.int p4), (.int p4), (.int (0 : Int32)), (.int (0 : Int32))] := A30
    have N30 := Fr.snoc X30 N29 g_b23
    have sz30 : n0 ≤ h30.size := Nat.le_trans sz29 (Keep.of_wr W30).1
    show own_Go p e below _ T30 (mkF m 219 #[.val (.int p1), .val (.int p2), .val (.int p3), .val (.int p4), .val (.int u1), .val (.int u0), .val (.int u1), .val (.int u2), .val (.int u3), .val (.int ma), .val (.int mb), .val (.int af), .val (.int bf), .val (.ref b1), .val (.ref b10), .val (.int r20), .val (.int r22), .unset, .unset, .unset, .unset] [(.ref b23)])
    refine own_by (fun t_ k_ => XS.dup X30.here hx rfl (hb hby at_219) rfl rfl k_) ?_
    show own_Go p e below _ T30 (mkF m 220 #[.val (.int p1), .val (.int p2), .val (.int p3), .val (.int p4), .val (.int u1), .val (.int u0), .val (.int u1), .val (.int u2), .val (.int u3), .val (.int ma), .val (.int mb), .val (.int af), .val (.int bf), .val (.ref b1), .val (.ref b10), .val (.int r20), .val (.int r22), .unset, .unset, .unset, .unset] [(.ref b23), (.ref b23)])
    refine own_by (fun t_ k_ => XS.bipush X30.here hx rfl (hb hby at_220) k_) ?_
    show own_Go p e below _ T30 (mkF m 222 #[.val (.int p1), .val (.int p2), .val (.int p3), .val (.int p4), .val (.int u1), .val (.int u0), .val (.int u1), .val (.int u2), .val (.int u3), .val (.int ma), .val (.int mb), .val (.int af), .val (.int bf), .val (.ref b1), .val (.ref b10), .val (.int r20), .val (.int r22), .unset, .unset, .unset, .unset] [(.int (6 : Int32)), (.ref b23), (.ref b23)])
    refine own_by (fun t_ k_ => XS.iloadN X30.here hx rfl (hb hby at_222) rfl k_) ?_
    show own_Go p e below _ T30 (mkF m 223 #[.val (.int p1), .val (.int p2), .val (.int p3), .val (.int p4), .val (.int u1), .val (.int u0), .val (.int u1), .val (.int u2), .val (.int u3), .val (.int ma), .val (.int mb), .val (.int af), .val (.int bf), .val (.ref b1), .val (.ref b10), .val (.int r20), .val (.int r22), .unset, .unset, .unset, .unset] [(.int p4), (.int (6 : Int32)), (.ref b23), (.ref b23)])
    refine own_iastore X30 hx hZ e30 V30_0 6 (by decide) (Nat.le_of_ble_eq_true rfl) (hb hby at_223) ?_
    intro T31 h31 X31 e31 W31 A31
    have V31_0 : own_Arr Z h31 b23 .int [(.int p4), (.int p4), (.int p4), (.int p4), (.int p4), (.int p4), (.int p4), (.int (0 : Int32))] := A31
    have N31 := Fr.snoc X31 N30 g_b23
    have sz31 : n0 ≤ h31.size := Nat.le_trans sz30 (Keep.of_wr W31).1
    show own_Go p e below _ T31 (mkF m 224 #[.val (.int p1), .val (.int p2), .val (.int p3), .val (.int p4), .val (.int u1), .val (.int u0), .val (.int u1), .val (.int u2), .val (.int u3), .val (.int ma), .val (.int mb), .val (.int af), .val (.int bf), .val (.ref b1), .val (.ref b10), .val (.int r20), .val (.int r22), .unset, .unset, .unset, .unset] [(.ref b23)])
    refine own_by (fun t_ k_ => XS.dup X31.here hx rfl (hb hby at_224) rfl rfl k_) ?_
    show own_Go p e below _ T31 (mkF m 225 #[.val (.int p1), .val (.int p2), .val (.int p3), .val (.int p4), .val (.int u1), .val (.int u0), .val (.int u1), .val (.int u2), .val (.int u3), .val (.int ma), .val (.int mb), .val (.int af), .val (.int bf), .val (.ref b1), .val (.ref b10), .val (.int r20), .val (.int r22), .unset, .unset, .unset, .unset] [(.ref b23), (.ref b23)])
    refine own_by (fun t_ k_ => XS.bipush X31.here hx rfl (hb hby at_225) k_) ?_
    show own_Go p e below _ T31 (mkF m 227 #[.val (.int p1), .val (.int p2), .val (.int p3), .val (.int p4), .val (.int u1), .val (.int u0), .val (.int u1), .val (.int u2), .val (.int u3), .val (.int ma), .val (.int mb), .val (.int af), .val (.int bf), .val (.ref b1), .val (.ref b10), .val (.int r20), .val (.int r22), .unset, .unset, .unset, .unset] [(.int (7 : Int32)), (.ref b23), (.ref b23)])
    refine own_by (fun t_ k_ => XS.iloadN X31.here hx rfl (hb hby at_227) rfl k_) ?_
    show own_Go p e below _ T31 (mkF m 228 #[.val (.int p1), .val (.int p2), .val (.int p3), .val (.int p4), .val (.int u1), .val (.int u0), .val (.int u1), .val (.int u2), .val (.int u3), .val (.int ma), .val (.int mb), .val (.int af), .val (.int bf), .val (.ref b1), .val (.ref b10), .val (.int r20), .val (.int r22), .unset, .unset, .unset, .unset] [(.int p4), (.int (7 : Int32)), (.ref b23), (.ref b23)])
    refine own_iastore X31 hx hZ e31 V31_0 7 (by decide) (Nat.le_of_ble_eq_true rfl) (hb hby at_228) ?_
    intro T32 h32 X32 e32 W32 A32
    have V32_0 : own_Arr Z h32 b23 .int [(.int p4), (.int p4), (.int p4), (.int p4), (.int p4), (.int p4), (.int p4), (.int p4)] := A32
    have N32 := Fr.snoc X32 N31 g_b23
    have sz32 : n0 ≤ h32.size := Nat.le_trans sz31 (Keep.of_wr W32).1
    show own_Go p e below _ T32 (mkF m 229 #[.val (.int p1), .val (.int p2), .val (.int p3), .val (.int p4), .val (.int u1), .val (.int u0), .val (.int u1), .val (.int u2), .val (.int u3), .val (.int ma), .val (.int mb), .val (.int af), .val (.int bf), .val (.ref b1), .val (.ref b10), .val (.int r20), .val (.int r22), .unset, .unset, .unset, .unset] [(.ref b23)])
    refine own_by (fun t_ k_ => XS.astore X32.here hx rfl (hb hby at_229) rfl rfl (l' := #[.val (.int p1), .val (.int p2), .val (.int p3), .val (.int p4), .val (.int u1), .val (.int u0), .val (.int u1), .val (.int u2), .val (.int u3), .val (.int ma), .val (.int mb), .val (.int af), .val (.int bf), .val (.ref b1), .val (.ref b10), .val (.int r20), .val (.int r22), .val (.ref b23), .unset, .unset, .unset]) rfl k_) ?_
    show own_Go p e below _ T32 (mkF m 231 #[.val (.int p1), .val (.int p2), .val (.int p3), .val (.int p4), .val (.int u1), .val (.int u0), .val (.int u1), .val (.int u2), .val (.int u3), .val (.int ma), .val (.int mb), .val (.int af), .val (.int bf), .val (.ref b1), .val (.ref b10), .val (.int r20), .val (.int r22), .val (.ref b23), .unset, .unset, .unset] [])
    refine own_by (fun t_ k_ => XS.bipush X32.here hx rfl (hb hby at_231) k_) ?_
    show own_Go p e below _ T32 (mkF m 233 #[.val (.int p1), .val (.int p2), .val (.int p3), .val (.int p4), .val (.int u1), .val (.int u0), .val (.int u1), .val (.int u2), .val (.int u3), .val (.int ma), .val (.int mb), .val (.int af), .val (.int bf), .val (.ref b1), .val (.ref b10), .val (.int r20), .val (.int r22), .val (.ref b23), .unset, .unset, .unset] [(.int (8 : Int32))])
    refine own_newP X32 hx hZ (hw _ (List.mem_of_getElem? (i := 3) rfl)) e32 (hb hby at_233) 8 8 (by decide) (by decide) (by decide) (by decide) (by decide) ?_
    intro T33 h33 b33 X33 e33 g33 E33 A33
    have A20_34 : own_Arr Z h32 b1 .int (own_put [(.int p3), (.int p3), (.int p3), (.int p3), (.int p3), (.int p3), (.int p3), (.int p3)] fa (own_sel ma u0 u1 u2 u3)) := (own_Arr.other (own_Arr.other (own_Arr.other (own_Arr.other (own_Arr.other (own_Arr.other (own_Arr.other (own_Arr.other (own_Arr.ext A20_24 E23) W25 (Nat.ne_of_lt lt_b1_b23)) W26 (Nat.ne_of_lt lt_b1_b23)) W27 (Nat.ne_of_lt lt_b1_b23)) W28 (Nat.ne_of_lt lt_b1_b23)) W29 (Nat.ne_of_lt lt_b1_b23)) W30 (Nat.ne_of_lt lt_b1_b23)) W31 (Nat.ne_of_lt lt_b1_b23)) W32 (Nat.ne_of_lt lt_b1_b23))
    have lt_b1_b33 : b1 < b33 := Nat.lt_of_lt_of_le A20_34.lt (Nat.le_of_eq g33.symm)
    have A22_35 : own_Arr Z h32 b10 .int (own_put [(.int p3), (.int p3), (.int p3), (.int p3), (.int p3), (.int p3), (.int p3), (.int p3)] fb (own_sel mb u0 u1 u2 u3)) := (own_Arr.other (own_Arr.other (own_Arr.other (own_Arr.other (own_Arr.other (own_Arr.other (own_Arr.other (own_Arr.other (own_Arr.ext A22 E23) W25 (Nat.ne_of_lt lt_b10_b23)) W26 (Nat.ne_of_lt lt_b10_b23)) W27 (Nat.ne_of_lt lt_b10_b23)) W28 (Nat.ne_of_lt lt_b10_b23)) W29 (Nat.ne_of_lt lt_b10_b23)) W30 (Nat.ne_of_lt lt_b10_b23)) W31 (Nat.ne_of_lt lt_b10_b23)) W32 (Nat.ne_of_lt lt_b10_b23))
    have lt_b10_b33 : b10 < b33 := Nat.lt_of_lt_of_le A22_35.lt (Nat.le_of_eq g33.symm)
    have lt_b23_b33 : b23 < b33 := Nat.lt_of_lt_of_le V32_0.lt (Nat.le_of_eq g33.symm)
    have g_b33 : n0 ≤ b33 := Nat.le_trans sz32 (Nat.le_of_eq g33.symm)
    have sz33 : n0 ≤ h33.size := Nat.le_trans sz32 E33.1
    have V33_0 : own_Arr Z h33 b33 .int [(.int (0 : Int32)), (.int (0 : Int32)), (.int (0 : Int32)), (.int (0 : Int32)), (.int (0 : Int32)), (.int (0 : Int32)), (.int (0 : Int32)), (.int (0 : Int32))] := A33
    show own_Go p e below _ T33 (mkF m 235 #[.val (.int p1), .val (.int p2), .val (.int p3), .val (.int p4), .val (.int u1), .val (.int u0), .val (.int u1), .val (.int u2), .val (.int u3), .val (.int ma), .val (.int mb), .val (.int af), .val (.int bf), .val (.ref b1), .val (.ref b10), .val (.int r20), .val (.int r22), .val (.ref b23), .unset, .unset, .unset] [(.ref b33)])
    refine own_by (fun t_ k_ => XS.dup X33.here hx rfl (hb hby at_235) rfl rfl k_) ?_
    show own_Go p e below _ T33 (mkF m 236 #[.val (.int p1), .val (.int p2), .val (.int p3), .val (.int p4), .val (.int u1), .val (.int u0), .val (.int u1), .val (.int u2), .val (.int u3), .val (.int ma), .val (.int mb), .val (.int af), .val (.int bf), .val (.ref b1), .val (.ref b10), .val (.int r20), .val (.int r22), .val (.ref b23), .unset, .unset, .unset] [(.ref b33), (.ref b33)])
    refine own_by (fun t_ k_ => XS.iconst X33.here hx rfl (hb hby at_236) k_) ?_
    show own_Go p e below _ T33 (mkF m 237 #[.val (.int p1), .val (.int p2), .val (.int p3), .val (.int p4), .val (.int u1), .val (.int u0), .val (.int u1), .val (.int u2), .val (.int u3), .val (.int ma), .val (.int mb), .val (.int af), .val (.int bf), .val (.ref b1), .val (.ref b10), .val (.int r20), .val (.int r22), .val (.ref b23), .unset, .unset, .unset] [(.int (0 : Int32)), (.ref b33), (.ref b33)])
    refine own_by (fun t_ k_ => XS.iloadN X33.here hx rfl (hb hby at_237) rfl k_) ?_
    show own_Go p e below _ T33 (mkF m 238 #[.val (.int p1), .val (.int p2), .val (.int p3), .val (.int p4), .val (.int u1), .val (.int u0), .val (.int u1), .val (.int u2), .val (.int u3), .val (.int ma), .val (.int mb), .val (.int af), .val (.int bf), .val (.ref b1), .val (.ref b10), .val (.int r20), .val (.int r22), .val (.ref b23), .unset, .unset, .unset] [(.int p4), (.int (0 : Int32)), (.ref b33), (.ref b33)])
    refine own_iastore X33 hx hZ e33 V33_0 0 (by decide) (Nat.le_of_ble_eq_true rfl) (hb hby at_238) ?_
    intro T36 h36 X36 e36 W36 A36
    have V36_0 : own_Arr Z h36 b33 .int [(.int p4), (.int (0 : Int32)), (.int (0 : Int32)), (.int (0 : Int32)), (.int (0 : Int32)), (.int (0 : Int32)), (.int (0 : Int32)), (.int (0 : Int32))] := A36
    have N36 := Fr.snoc X36 N32 g_b33
    have sz36 : n0 ≤ h36.size := Nat.le_trans sz33 (Keep.of_wr W36).1
    show own_Go p e below _ T36 (mkF m 239 #[.val (.int p1), .val (.int p2), .val (.int p3), .val (.int p4), .val (.int u1), .val (.int u0), .val (.int u1), .val (.int u2), .val (.int u3), .val (.int ma), .val (.int mb), .val (.int af), .val (.int bf), .val (.ref b1), .val (.ref b10), .val (.int r20), .val (.int r22), .val (.ref b23), .unset, .unset, .unset] [(.ref b33)])
    refine own_by (fun t_ k_ => XS.dup X36.here hx rfl (hb hby at_239) rfl rfl k_) ?_
    show own_Go p e below _ T36 (mkF m 240 #[.val (.int p1), .val (.int p2), .val (.int p3), .val (.int p4), .val (.int u1), .val (.int u0), .val (.int u1), .val (.int u2), .val (.int u3), .val (.int ma), .val (.int mb), .val (.int af), .val (.int bf), .val (.ref b1), .val (.ref b10), .val (.int r20), .val (.int r22), .val (.ref b23), .unset, .unset, .unset] [(.ref b33), (.ref b33)])
    refine own_by (fun t_ k_ => XS.iconst X36.here hx rfl (hb hby at_240) k_) ?_
    show own_Go p e below _ T36 (mkF m 241 #[.val (.int p1), .val (.int p2), .val (.int p3), .val (.int p4), .val (.int u1), .val (.int u0), .val (.int u1), .val (.int u2), .val (.int u3), .val (.int ma), .val (.int mb), .val (.int af), .val (.int bf), .val (.ref b1), .val (.ref b10), .val (.int r20), .val (.int r22), .val (.ref b23), .unset, .unset, .unset] [(.int (1 : Int32)), (.ref b33), (.ref b33)])
    refine own_by (fun t_ k_ => XS.iloadN X36.here hx rfl (hb hby at_241) rfl k_) ?_
    show own_Go p e below _ T36 (mkF m 242 #[.val (.int p1), .val (.int p2), .val (.int p3), .val (.int p4), .val (.int u1), .val (.int u0), .val (.int u1), .val (.int u2), .val (.int u3), .val (.int ma), .val (.int mb), .val (.int af), .val (.int bf), .val (.ref b1), .val (.ref b10), .val (.int r20), .val (.int r22), .val (.ref b23), .unset, .unset, .unset] [(.int p4), (.int (1 : Int32)), (.ref b33), (.ref b33)])
    refine own_iastore X36 hx hZ e36 V36_0 1 (by decide) (Nat.le_of_ble_eq_true rfl) (hb hby at_242) ?_
    intro T37 h37 X37 e37 W37 A37
    have V37_0 : own_Arr Z h37 b33 .int [(.int p4), (.int p4), (.int (0 : Int32)), (.int (0 : Int32)), (.int (0 : Int32)), (.int (0 : Int32)), (.int (0 : Int32)), (.int (0 : Int32))] := A37
    have N37 := Fr.snoc X37 N36 g_b33
    have sz37 : n0 ≤ h37.size := Nat.le_trans sz36 (Keep.of_wr W37).1
    show own_Go p e below _ T37 (mkF m 243 #[.val (.int p1), .val (.int p2), .val (.int p3), .val (.int p4), .val (.int u1), .val (.int u0), .val (.int u1), .val (.int u2), .val (.int u3), .val (.int ma), .val (.int mb), .val (.int af), .val (.int bf), .val (.ref b1), .val (.ref b10), .val (.int r20), .val (.int r22), .val (.ref b23), .unset, .unset, .unset] [(.ref b33)])
    refine own_by (fun t_ k_ => XS.dup X37.here hx rfl (hb hby at_243) rfl rfl k_) ?_
    show own_Go p e below _ T37 (mkF m 244 #[.val (.int p1), .val (.int p2), .val (.int p3), .val (.int p4), .val (.int u1), .val (.int u0), .val (.int u1), .val (.int u2), .val (.int u3), .val (.int ma), .val (.int mb), .val (.int af), .val (.int bf), .val (.ref b1), .val (.ref b10), .val (.int r20), .val (.int r22), .val (.ref b23), .unset, .unset, .unset] [(.ref b33), (.ref b33)])
    refine own_by (fun t_ k_ => XS.iconst X37.here hx rfl (hb hby at_244) k_) ?_
    show own_Go p e below _ T37 (mkF m 245 #[.val (.int p1), .val (.int p2), .val (.int p3), .val (.int p4), .val (.int u1), .val (.int u0), .val (.int u1), .val (.int u2), .val (.int u3), .val (.int ma), .val (.int mb), .val (.int af), .val (.int bf), .val (.ref b1), .val (.ref b10), .val (.int r20), .val (.int r22), .val (.ref b23), .unset, .unset, .unset] [(.int (2 : Int32)), (.ref b33), (.ref b33)])
    refine own_by (fun t_ k_ => XS.iloadN X37.here hx rfl (hb hby at_245) rfl k_) ?_
    show own_Go p e below _ T37 (mkF m 246 #[.val (.int p1), .val (.int p2), .val (.int p3), .val (.int p4), .val (.int u1), .val (.int u0), .val (.int u1), .val (.int u2), .val (.int u3), .val (.int ma), .val (.int mb), .val (.int af), .val (.int bf), .val (.ref b1), .val (.ref b10), .val (.int r20), .val (.int r22), .val (.ref b23), .unset, .unset, .unset] [(.int p4), (.int (2 : Int32)), (.ref b33), (.ref b33)])
    refine own_iastore X37 hx hZ e37 V37_0 2 (by decide) (Nat.le_of_ble_eq_true rfl) (hb hby at_246) ?_
    intro T38 h38 X38 e38 W38 A38
    have V38_0 : own_Arr Z h38 b33 .int [(.int p4), (.int p4), (.int p4), (.int (0 : Int32)), (.int (0 : Int32)), (.int (0 : Int32)), (.int (0 : Int32)), (.int (0 : Int32))] := A38
    have N38 := Fr.snoc X38 N37 g_b33
    have sz38 : n0 ≤ h38.size := Nat.le_trans sz37 (Keep.of_wr W38).1
    show own_Go p e below _ T38 (mkF m 247 #[.val (.int p1), .val (.int p2), .val (.int p3), .val (.int p4), .val (.int u1), .val (.int u0), .val (.int u1), .val (.int u2), .val (.int u3), .val (.int ma), .val (.int mb), .val (.int af), .val (.int bf), .val (.ref b1), .val (.ref b10), .val (.int r20), .val (.int r22), .val (.ref b23), .unset, .unset, .unset] [(.ref b33)])
    refine own_by (fun t_ k_ => XS.dup X38.here hx rfl (hb hby at_247) rfl rfl k_) ?_
    show own_Go p e below _ T38 (mkF m 248 #[.val (.int p1), .val (.int p2), .val (.int p3), .val (.int p4), .val (.int u1), .val (.int u0), .val (.int u1), .val (.int u2), .val (.int u3), .val (.int ma), .val (.int mb), .val (.int af), .val (.int bf), .val (.ref b1), .val (.ref b10), .val (.int r20), .val (.int r22), .val (.ref b23), .unset, .unset, .unset] [(.ref b33), (.ref b33)])
    refine own_by (fun t_ k_ => XS.iconst X38.here hx rfl (hb hby at_248) k_) ?_
    show own_Go p e below _ T38 (mkF m 249 #[.val (.int p1), .val (.int p2), .val (.int p3), .val (.int p4), .val (.int u1), .val (.int u0), .val (.int u1), .val (.int u2), .val (.int u3), .val (.int ma), .val (.int mb), .val (.int af), .val (.int bf), .val (.ref b1), .val (.ref b10), .val (.int r20), .val (.int r22), .val (.ref b23), .unset, .unset, .unset] [(.int (3 : Int32)), (.ref b33), (.ref b33)])
    refine own_by (fun t_ k_ => XS.iloadN X38.here hx rfl (hb hby at_249) rfl k_) ?_
    show own_Go p e below _ T38 (mkF m 250 #[.val (.int p1), .val (.int p2), .val (.int p3), .val (.int p4), .val (.int u1), .val (.int u0), .val (.int u1), .val (.int u2), .val (.int u3), .val (.int ma), .val (.int mb), .val (.int af), .val (.int bf), .val (.ref b1), .val (.ref b10), .val (.int r20), .val (.int r22), .val (.ref b23), .unset, .unset, .unset] [(.int p4), (.int (3 : Int32)), (.ref b33), (.ref b33)])
    refine own_iastore X38 hx hZ e38 V38_0 3 (by decide) (Nat.le_of_ble_eq_true rfl) (hb hby at_250) ?_
    intro T39 h39 X39 e39 W39 A39
    have V39_0 : own_Arr Z h39 b33 .int [(.int p4), (.int p4), (.int p4), (.int p4), (.int (0 : Int32)), (.int (0 : Int32)), (.int (0 : Int32)), (.int (0 : Int32))] := A39
    have N39 := Fr.snoc X39 N38 g_b33
    have sz39 : n0 ≤ h39.size := Nat.le_trans sz38 (Keep.of_wr W39).1
    show own_Go p e below _ T39 (mkF m 251 #[.val (.int p1), .val (.int p2), .val (.int p3), .val (.int p4), .val (.int u1), .val (.int u0), .val (.int u1), .val (.int u2), .val (.int u3), .val (.int ma), .val (.int mb), .val (.int af), .val (.int bf), .val (.ref b1), .val (.ref b10), .val (.int r20), .val (.int r22), .val (.ref b23), .unset, .unset, .unset] [(.ref b33)])
    refine own_by (fun t_ k_ => XS.dup X39.here hx rfl (hb hby at_251) rfl rfl k_) ?_
    show own_Go p e below _ T39 (mkF m 252 #[.val (.int p1), .val (.int p2), .val (.int p3), .val (.int p4), .val (.int u1), .val (.int u0), .val (.int u1), .val (.int u2), .val (.int u3), .val (.int ma), .val (.int mb), .val (.int af), .val (.int bf), .val (.ref b1), .val (.ref b10), .val (.int r20), .val (.int r22), .val (.ref b23), .unset, .unset, .unset] [(.ref b33), (.ref b33)])
    refine own_by (fun t_ k_ => XS.iconst X39.here hx rfl (hb hby at_252) k_) ?_
    show own_Go p e below _ T39 (mkF m 253 #[.val (.int p1), .val (.int p2), .val (.int p3), .val (.int p4), .val (.int u1), .val (.int u0), .val (.int u1), .val (.int u2), .val (.int u3), .val (.int ma), .val (.int mb), .val (.int af), .val (.int bf), .val (.ref b1), .val (.ref b10), .val (.int r20), .val (.int r22), .val (.ref b23), .unset, .unset, .unset] [(.int (4 : Int32)), (.ref b33), (.ref b33)])
    refine own_by (fun t_ k_ => XS.iloadN X39.here hx rfl (hb hby at_253) rfl k_) ?_
    show own_Go p e below _ T39 (mkF m 254 #[.val (.int p1), .val (.int p2), .val (.int p3), .val (.int p4), .val (.int u1), .val (.int u0), .val (.int u1), .val (.int u2), .val (.int u3), .val (.int ma), .val (.int mb), .val (.int af), .val (.int bf), .val (.ref b1), .val (.ref b10), .val (.int r20), .val (.int r22), .val (.ref b23), .unset, .unset, .unset] [(.int p4), (.int (4 : Int32)), (.ref b33), (.ref b33)])
    refine own_iastore X39 hx hZ e39 V39_0 4 (by decide) (Nat.le_of_ble_eq_true rfl) (hb hby at_254) ?_
    intro T40 h40 X40 e40 W40 A40
    have V40_0 : own_Arr Z h40 b33 .int [(.int p4), (.int p4), (.int p4), (.int p4), (.int p4), (.int (0 : Int32)), (.int (0 : Int32)), (.int (0 : Int32))] := A40
    have N40 := Fr.snoc X40 N39 g_b33
    have sz40 : n0 ≤ h40.size := Nat.le_trans sz39 (Keep.of_wr W40).1
    show own_Go p e below _ T40 (mkF m 255 #[.val (.int p1), .val (.int p2), .val (.int p3), .val (.int p4), .val (.int u1), .val (.int u0), .val (.int u1), .val (.int u2), .val (.int u3), .val (.int ma), .val (.int mb), .val (.int af), .val (.int bf), .val (.ref b1), .val (.ref b10), .val (.int r20), .val (.int r22), .val (.ref b23), .unset, .unset, .unset] [(.ref b33)])
    refine own_by (fun t_ k_ => XS.dup X40.here hx rfl (hb hby at_255) rfl rfl k_) ?_
    show own_Go p e below _ T40 (mkF m 256 #[.val (.int p1), .val (.int p2), .val (.int p3), .val (.int p4), .val (.int u1), .val (.int u0), .val (.int u1), .val (.int u2), .val (.int u3), .val (.int ma), .val (.int mb), .val (.int af), .val (.int bf), .val (.ref b1), .val (.ref b10), .val (.int r20), .val (.int r22), .val (.ref b23), .unset, .unset, .unset] [(.ref b33), (.ref b33)])
    refine own_by (fun t_ k_ => XS.iconst X40.here hx rfl (hb hby at_256) k_) ?_
    show own_Go p e below _ T40 (mkF m 257 #[.val (.int p1), .val (.int p2), .val (.int p3), .val (.int p4), .val (.int u1), .val (.int u0), .val (.int u1), .val (.int u2), .val (.int u3), .val (.int ma), .val (.int mb), .val (.int af), .val (.int bf), .val (.ref b1), .val (.ref b10), .val (.int r20), .val (.int r22), .val (.ref b23), .unset, .unset, .unset] [(.int (5 : Int32)), (.ref b33), (.ref b33)])
    refine own_by (fun t_ k_ => XS.iloadN X40.here hx rfl (hb hby at_257) rfl k_) ?_
    show own_Go p e below _ T40 (mkF m 258 #[.val (.int p1), .val (.int p2), .val (.int p3), .val (.int p4), .val (.int u1), .val (.int u0), .val (.int u1), .val (.int u2), .val (.int u3), .val (.int ma), .val (.int mb), .val (.int af), .val (.int bf), .val (.ref b1), .val (.ref b10), .val (.int r20), .val (.int r22), .val (.ref b23), .unset, .unset, .unset] [(.int p4), (.int (5 : Int32)), (.ref b33), (.ref b33)])
    refine own_iastore X40 hx hZ e40 V40_0 5 (by decide) (Nat.le_of_ble_eq_true rfl) (hb hby at_258) ?_
    intro T41 h41 X41 e41 W41 A41
    have V41_0 : own_Arr Z h41 b33 .int [(.int p4), (.int p4), (.int p4), (.int p4), (.int p4), (.int p4), (.int (0 : Int32)), (.int (0 : Int32))] := A41
    have N41 := Fr.snoc X41 N40 g_b33
    have sz41 : n0 ≤ h41.size := Nat.le_trans sz40 (Keep.of_wr W41).1
    show own_Go p e below _ T41 (mkF m 259 #[.val (.int p1), .val (.int p2), .val (.int p3), .val (.int p4), .val (.int u1), .val (.int u0), .val (.int u1), .val (.int u2), .val (.int u3), .val (.int ma), .val (.int mb), .val (.int af), .val (.int bf), .val (.ref b1), .val (.ref b10), .val (.int r20), .val (.int r22), .val (.ref b23), .unset, .unset, .unset] [(.ref b33)])
    refine own_by (fun t_ k_ => XS.dup X41.here hx rfl (hb hby at_259) rfl rfl k_) ?_
    show own_Go p e below _ T41 (mkF m 260 #[.val (.int p1), .val (.int p2), .val (.int p3), .val (.int p4), .val (.int u1), .val (.int u0), .val (.int u1), .val (.int u2), .val (.int u3), .val (.int ma), .val (.int mb), .val (.int af), .val (.int bf), .val (.ref b1), .val (.ref b10), .val (.int r20), .val (.int r22), .val (.ref b23), .unset, .unset, .unset] [(.ref b33), (.ref b33)])
    refine own_by (fun t_ k_ => XS.bipush X41.here hx rfl (hb hby at_260) k_) ?_
    show own_Go p e below _ T41 (mkF m 262 #[.val (.int p1), .val (.int p2), .val (.int p3), .val (.int p4), .val (.int u1), .val (.int u0), .val (.int u1), .val (.int u2), .val (.int u3), .val (.int ma), .val (.int mb), .val (.int af), .val (.int bf), .val (.ref b1), .val (.ref b10), .val (.int r20), .val (.int r22), .val (.ref b23), .unset, .unset, .unset] [(.int (6 : Int32)), (.ref b33), (.ref b33)])
    refine own_by (fun t_ k_ => XS.iloadN X41.here hx rfl (hb hby at_262) rfl k_) ?_
    show own_Go p e below _ T41 (mkF m 263 #[.val (.int p1), .val (.int p2), .val (.int p3), .val (.int p4), .val (.int u1), .val (.int u0), .val (.int u1), .val (.int u2), .val (.int u3), .val (.int ma), .val (.int mb), .val (.int af), .val (.int bf), .val (.ref b1), .val (.ref b10), .val (.int r20), .val (.int r22), .val (.ref b23), .unset, .unset, .unset] [(.int p4), (.int (6 : Int32)), (.ref b33), (.ref b33)])
    refine own_iastore X41 hx hZ e41 V41_0 6 (by decide) (Nat.le_of_ble_eq_true rfl) (hb hby at_263) ?_
    intro T42 h42 X42 e42 W42 A42
    have V42_0 : own_Arr Z h42 b33 .int [(.int p4), (.int p4), (.int p4), (.int p4), (.int p4), (.int p4), (.int p4), (.int (0 : Int32))] := A42
    have N42 := Fr.snoc X42 N41 g_b33
    have sz42 : n0 ≤ h42.size := Nat.le_trans sz41 (Keep.of_wr W42).1
    show own_Go p e below _ T42 (mkF m 264 #[.val (.int p1), .val (.int p2), .val (.int p3), .val (.int p4), .val (.int u1), .val (.int u0), .val (.int u1), .val (.int u2), .val (.int u3), .val (.int ma), .val (.int mb), .val (.int af), .val (.int bf), .val (.ref b1), .val (.ref b10), .val (.int r20), .val (.int r22), .val (.ref b23), .unset, .unset, .unset] [(.ref b33)])
    refine own_by (fun t_ k_ => XS.dup X42.here hx rfl (hb hby at_264) rfl rfl k_) ?_
    show own_Go p e below _ T42 (mkF m 265 #[.val (.int p1), .val (.int p2), .val (.int p3), .val (.int p4), .val (.int u1), .val (.int u0), .val (.int u1), .val (.int u2), .val (.int u3), .val (.int ma), .val (.int mb), .val (.int af), .val (.int bf), .val (.ref b1), .val (.ref b10), .val (.int r20), .val (.int r22), .val (.ref b23), .unset, .unset, .unset] [(.ref b33), (.ref b33)])
    refine own_by (fun t_ k_ => XS.bipush X42.here hx rfl (hb hby at_265) k_) ?_
    show own_Go p e below _ T42 (mkF m 267 #[.val (.int p1), .val (.int p2), .val (.int p3), .val (.int p4), .val (.int u1), .val (.int u0), .val (.int u1), .val (.int u2), .val (.int u3), .val (.int ma), .val (.int mb), .val (.int af), .val (.int bf), .val (.ref b1), .val (.ref b10), .val (.int r20), .val (.int r22), .val (.ref b23), .unset, .unset, .unset] [(.int (7 : Int32)), (.ref b33), (.ref b33)])
    refine own_by (fun t_ k_ => XS.iloadN X42.here hx rfl (hb hby at_267) rfl k_) ?_
    show own_Go p e below _ T42 (mkF m 268 #[.val (.int p1), .val (.int p2), .val (.int p3), .val (.int p4), .val (.int u1), .val (.int u0), .val (.int u1), .val (.int u2), .val (.int u3), .val (.int ma), .val (.int mb), .val (.int af), .val (.int bf), .val (.ref b1), .val (.ref b10), .val (.int r20), .val (.int r22), .val (.ref b23), .unset, .unset, .unset] [(.int p4), (.int (7 : Int32)), (.ref b33), (.ref b33)])
    refine own_iastore X42 hx hZ e42 V42_0 7 (by decide) (Nat.le_of_ble_eq_true rfl) (hb hby at_268) ?_
    intro T43 h43 X43 e43 W43 A43
    have V43_0 : own_Arr Z h43 b33 .int [(.int p4), (.int p4), (.int p4), (.int p4), (.int p4), (.int p4), (.int p4), (.int p4)] := A43
    have N43 := Fr.snoc X43 N42 g_b33
    have sz43 : n0 ≤ h43.size := Nat.le_trans sz42 (Keep.of_wr W43).1
    show own_Go p e below _ T43 (mkF m 269 #[.val (.int p1), .val (.int p2), .val (.int p3), .val (.int p4), .val (.int u1), .val (.int u0), .val (.int u1), .val (.int u2), .val (.int u3), .val (.int ma), .val (.int mb), .val (.int af), .val (.int bf), .val (.ref b1), .val (.ref b10), .val (.int r20), .val (.int r22), .val (.ref b23), .unset, .unset, .unset] [(.ref b33)])
    refine own_by (fun t_ k_ => XS.astore X43.here hx rfl (hb hby at_269) rfl rfl (l' := #[.val (.int p1), .val (.int p2), .val (.int p3), .val (.int p4), .val (.int u1), .val (.int u0), .val (.int u1), .val (.int u2), .val (.int u3), .val (.int ma), .val (.int mb), .val (.int af), .val (.int bf), .val (.ref b1), .val (.ref b10), .val (.int r20), .val (.int r22), .val (.ref b23), .val (.ref b33), .unset, .unset]) rfl k_) ?_
    show own_Go p e below _ T43 (mkF m 271 #[.val (.int p1), .val (.int p2), .val (.int p3), .val (.int p4), .val (.int u1), .val (.int u0), .val (.int u1), .val (.int u2), .val (.int u3), .val (.int ma), .val (.int mb), .val (.int af), .val (.int bf), .val (.ref b1), .val (.ref b10), .val (.int r20), .val (.int r22), .val (.ref b23), .val (.ref b33), .unset, .unset] [])
    refine own_by (fun t_ k_ => XS.aload X43.here hx rfl (hb hby at_271) rfl rfl k_) ?_
    show own_Go p e below _ T43 (mkF m 273 #[.val (.int p1), .val (.int p2), .val (.int p3), .val (.int p4), .val (.int u1), .val (.int u0), .val (.int u1), .val (.int u2), .val (.int u3), .val (.int ma), .val (.int mb), .val (.int af), .val (.int bf), .val (.ref b1), .val (.ref b10), .val (.int r20), .val (.int r22), .val (.ref b23), .val (.ref b33), .unset, .unset] [(.ref b33)])
    refine own_by (fun t_ k_ => XS.iconst X43.here hx rfl (hb hby at_273) k_) ?_
    show own_Go p e below _ T43 (mkF m 274 #[.val (.int p1), .val (.int p2), .val (.int p3), .val (.int p4), .val (.int u1), .val (.int u0), .val (.int u1), .val (.int u2), .val (.int u3), .val (.int ma), .val (.int mb), .val (.int af), .val (.int bf), .val (.ref b1), .val (.ref b10), .val (.int r20), .val (.int r22), .val (.ref b23), .val (.ref b33), .unset, .unset] [(.int (0 : Int32)), (.ref b33)])
    refine own_by (fun t_ k_ => XS.iload X43.here hx rfl (hb hby at_274) rfl k_) ?_
    show own_Go p e below _ T43 (mkF m 276 #[.val (.int p1), .val (.int p2), .val (.int p3), .val (.int p4), .val (.int u1), .val (.int u0), .val (.int u1), .val (.int u2), .val (.int u3), .val (.int ma), .val (.int mb), .val (.int af), .val (.int bf), .val (.ref b1), .val (.ref b10), .val (.int r20), .val (.int r22), .val (.ref b23), .val (.ref b33), .unset, .unset] [(.int ma), (.int (0 : Int32)), (.ref b33)])
    refine own_by (fun t_ k_ => XS.iload X43.here hx rfl (hb hby at_276) rfl k_) ?_
    show own_Go p e below _ T43 (mkF m 278 #[.val (.int p1), .val (.int p2), .val (.int p3), .val (.int p4), .val (.int u1), .val (.int u0), .val (.int u1), .val (.int u2), .val (.int u3), .val (.int ma), .val (.int mb), .val (.int af), .val (.int bf), .val (.ref b1), .val (.ref b10), .val (.int r20), .val (.int r22), .val (.ref b23), .val (.ref b33), .unset, .unset] [(.int mb), (.int ma), (.int (0 : Int32)), (.ref b33)])
    refine own_by (fun t_ k_ => XT.ior X43.here hx rfl (hb hby at_278) rfl k_) ?_
    show own_Go p e below _ T43 (mkF m 279 #[.val (.int p1), .val (.int p2), .val (.int p3), .val (.int p4), .val (.int u1), .val (.int u0), .val (.int u1), .val (.int u2), .val (.int u3), .val (.int ma), .val (.int mb), .val (.int af), .val (.int bf), .val (.ref b1), .val (.ref b10), .val (.int r20), .val (.int r22), .val (.ref b23), .val (.ref b33), .unset, .unset] [(.int (ma ||| mb)), (.int (0 : Int32)), (.ref b33)])
    refine own_by (fun t_ k_ => XS.iload X43.here hx rfl (hb hby at_279) rfl k_) ?_
    show own_Go p e below _ T43 (mkF m 281 #[.val (.int p1), .val (.int p2), .val (.int p3), .val (.int p4), .val (.int u1), .val (.int u0), .val (.int u1), .val (.int u2), .val (.int u3), .val (.int ma), .val (.int mb), .val (.int af), .val (.int bf), .val (.ref b1), .val (.ref b10), .val (.int r20), .val (.int r22), .val (.ref b23), .val (.ref b33), .unset, .unset] [(.int u0), (.int (ma ||| mb)), (.int (0 : Int32)), (.ref b33)])
    refine own_by (fun t_ k_ => XS.iload X43.here hx rfl (hb hby at_281) rfl k_) ?_
    show own_Go p e below _ T43 (mkF m 283 #[.val (.int p1), .val (.int p2), .val (.int p3), .val (.int p4), .val (.int u1), .val (.int u0), .val (.int u1), .val (.int u2), .val (.int u3), .val (.int ma), .val (.int mb), .val (.int af), .val (.int bf), .val (.ref b1), .val (.ref b10), .val (.int r20), .val (.int r22), .val (.ref b23), .val (.ref b33), .unset, .unset] [(.int u1), (.int u0), (.int (ma ||| mb)), (.int (0 : Int32)), (.ref b33)])
    refine own_by (fun t_ k_ => XS.iload X43.here hx rfl (hb hby at_283) rfl k_) ?_
    show own_Go p e below _ T43 (mkF m 285 #[.val (.int p1), .val (.int p2), .val (.int p3), .val (.int p4), .val (.int u1), .val (.int u0), .val (.int u1), .val (.int u2), .val (.int u3), .val (.int ma), .val (.int mb), .val (.int af), .val (.int bf), .val (.ref b1), .val (.ref b10), .val (.int r20), .val (.int r22), .val (.ref b23), .val (.ref b33), .unset, .unset] [(.int u2), (.int u1), (.int u0), (.int (ma ||| mb)), (.int (0 : Int32)), (.ref b33)])
    refine own_by (fun t_ k_ => XS.iload X43.here hx rfl (hb hby at_285) rfl k_) ?_
    show own_Go p e below _ T43 (mkF m 287 #[.val (.int p1), .val (.int p2), .val (.int p3), .val (.int p4), .val (.int u1), .val (.int u0), .val (.int u1), .val (.int u2), .val (.int u3), .val (.int ma), .val (.int mb), .val (.int af), .val (.int bf), .val (.ref b1), .val (.ref b10), .val (.int r20), .val (.int r22), .val (.ref b23), .val (.ref b33), .unset, .unset] [(.int u3), (.int u2), (.int u1), (.int u0), (.int (ma ||| mb)), (.int (0 : Int32)), (.ref b33)])
    refine own_callS (W := 0) X43 hx hZ (y := (⟨"com/example/valuation/valuation/provenance/MonomialUnionPinLaw", "place", "([IIIIIII)I"⟩ : MethodName)) hown (hw _ (List.mem_of_getElem? (i := 4) rfl)) (hw _ (List.mem_of_getElem? (i := 5) rfl)) (hw _ (List.mem_of_getElem? (i := 6) rfl)) (hw _ (List.mem_of_getElem? (i := 7) rfl)) (by decide) (by rw [hml]; rfl) (argsL := [(.ref b33), (.int (0 : Int32)), (.int (ma ||| mb)), (.int u0), (.int u1), (.int u2), (.int u3)]) pd_0 rfl (rm1 l Z a0 hw [] b33 (0 : Int32) (ma ||| mb) u0 u1 u2 u3 0 [(.int p4), (.int p4), (.int p4), (.int p4), (.int p4), (.int p4), (.int p4), (.int p4)] h43 n0 sz43 V43_0 g_b33 (by decide) (by simp <;> omega) (by simp)) (by decide) (by decide) (Nat.le_of_eq rfl) (by decide) (by decide) (rest := []) e43 rfl (hb hby at_287) ?_
    intro v44 T44 L44 X44 hQ44
    obtain ⟨r44, rfl, hr44, N44q, K44, A44⟩ := hQ44
    have N44 := Fr.app N43 N44q
    have sz44 : n0 ≤ T44.heap.size := Nat.le_trans sz43 K44.1
    show own_Go p e below _ T44 (mkF m 290 #[.val (.int p1), .val (.int p2), .val (.int p3), .val (.int p4), .val (.int u1), .val (.int u0), .val (.int u1), .val (.int u2), .val (.int u3), .val (.int ma), .val (.int mb), .val (.int af), .val (.int bf), .val (.ref b1), .val (.ref b10), .val (.int r20), .val (.int r22), .val (.ref b23), .val (.ref b33), .unset, .unset] [(.int r44)])
    refine own_by (fun t_ k_ => XS.istore X44.here hx rfl (hb hby at_290) rfl (l' := #[.val (.int p1), .val (.int p2), .val (.int p3), .val (.int p4), .val (.int u1), .val (.int u0), .val (.int u1), .val (.int u2), .val (.int u3), .val (.int ma), .val (.int mb), .val (.int af), .val (.int bf), .val (.ref b1), .val (.ref b10), .val (.int r20), .val (.int r22), .val (.ref b23), .val (.ref b33), .val (.int r44), .unset]) rfl k_) ?_
    show own_Go p e below _ T44 (mkF m 292 #[.val (.int p1), .val (.int p2), .val (.int p3), .val (.int p4), .val (.int u1), .val (.int u0), .val (.int u1), .val (.int u2), .val (.int u3), .val (.int ma), .val (.int mb), .val (.int af), .val (.int bf), .val (.ref b1), .val (.ref b10), .val (.int r20), .val (.int r22), .val (.ref b23), .val (.ref b33), .val (.int r44), .unset] [])
    refine own_by (fun t_ k_ => XS.aload X44.here hx rfl (hb hby at_292) rfl rfl k_) ?_
    show own_Go p e below _ T44 (mkF m 294 #[.val (.int p1), .val (.int p2), .val (.int p3), .val (.int p4), .val (.int u1), .val (.int u0), .val (.int u1), .val (.int u2), .val (.int u3), .val (.int ma), .val (.int mb), .val (.int af), .val (.int bf), .val (.ref b1), .val (.ref b10), .val (.int r20), .val (.int r22), .val (.ref b23), .val (.ref b33), .val (.int r44), .unset] [(.ref b1)])
    refine own_by (fun t_ k_ => XS.iload X44.here hx rfl (hb hby at_294) rfl k_) ?_
    show own_Go p e below _ T44 (mkF m 296 #[.val (.int p1), .val (.int p2), .val (.int p3), .val (.int p4), .val (.int u1), .val (.int u0), .val (.int u1), .val (.int u2), .val (.int u3), .val (.int ma), .val (.int mb), .val (.int af), .val (.int bf), .val (.ref b1), .val (.ref b10), .val (.int r20), .val (.int r22), .val (.ref b23), .val (.ref b33), .val (.int r44), .unset] [(.int af), (.ref b1)])
    refine own_by (fun t_ k_ => XS.iload X44.here hx rfl (hb hby at_296) rfl k_) ?_
    show own_Go p e below _ T44 (mkF m 298 #[.val (.int p1), .val (.int p2), .val (.int p3), .val (.int p4), .val (.int u1), .val (.int u0), .val (.int u1), .val (.int u2), .val (.int u3), .val (.int ma), .val (.int mb), .val (.int af), .val (.int bf), .val (.ref b1), .val (.ref b10), .val (.int r20), .val (.int r22), .val (.ref b23), .val (.ref b33), .val (.int r44), .unset] [(.int r20), (.int af), (.ref b1)])
    refine own_by (fun t_ k_ => XS.aload X44.here hx rfl (hb hby at_298) rfl rfl k_) ?_
    show own_Go p e below _ T44 (mkF m 300 #[.val (.int p1), .val (.int p2), .val (.int p3), .val (.int p4), .val (.int u1), .val (.int u0), .val (.int u1), .val (.int u2), .val (.int u3), .val (.int ma), .val (.int mb), .val (.int af), .val (.int bf), .val (.ref b1), .val (.ref b10), .val (.int r20), .val (.int r22), .val (.ref b23), .val (.ref b33), .val (.int r44), .unset] [(.ref b10), (.int r20), (.int af), (.ref b1)])
    refine own_by (fun t_ k_ => XS.iload X44.here hx rfl (hb hby at_300) rfl k_) ?_
    show own_Go p e below _ T44 (mkF m 302 #[.val (.int p1), .val (.int p2), .val (.int p3), .val (.int p4), .val (.int u1), .val (.int u0), .val (.int u1), .val (.int u2), .val (.int u3), .val (.int ma), .val (.int mb), .val (.int af), .val (.int bf), .val (.ref b1), .val (.ref b10), .val (.int r20), .val (.int r22), .val (.ref b23), .val (.ref b33), .val (.int r44), .unset] [(.int bf), (.ref b10), (.int r20), (.int af), (.ref b1)])
    refine own_by (fun t_ k_ => XS.iload X44.here hx rfl (hb hby at_302) rfl k_) ?_
    show own_Go p e below _ T44 (mkF m 304 #[.val (.int p1), .val (.int p2), .val (.int p3), .val (.int p4), .val (.int u1), .val (.int u0), .val (.int u1), .val (.int u2), .val (.int u3), .val (.int ma), .val (.int mb), .val (.int af), .val (.int bf), .val (.ref b1), .val (.ref b10), .val (.int r20), .val (.int r22), .val (.ref b23), .val (.ref b33), .val (.int r44), .unset] [(.int r22), (.int bf), (.ref b10), (.int r20), (.int af), (.ref b1)])
    refine own_by (fun t_ k_ => XS.aload X44.here hx rfl (hb hby at_304) rfl rfl k_) ?_
    show own_Go p e below _ T44 (mkF m 306 #[.val (.int p1), .val (.int p2), .val (.int p3), .val (.int p4), .val (.int u1), .val (.int u0), .val (.int u1), .val (.int u2), .val (.int u3), .val (.int ma), .val (.int mb), .val (.int af), .val (.int bf), .val (.ref b1), .val (.ref b10), .val (.int r20), .val (.int r22), .val (.ref b23), .val (.ref b33), .val (.int r44), .unset] [(.ref b23), (.int r22), (.int bf), (.ref b10), (.int r20), (.int af), (.ref b1)])
    have A20_45 : own_Arr Z T44.heap b1 .int (own_put [(.int p3), (.int p3), (.int p3), (.int p3), (.int p3), (.int p3), (.int p3), (.int p3)] fa (own_sel ma u0 u1 u2 u3)) := (own_Arr.keep (own_Arr.other (own_Arr.other (own_Arr.other (own_Arr.other (own_Arr.other (own_Arr.other (own_Arr.other (own_Arr.other (own_Arr.ext A20_34 E33) W36 (Nat.ne_of_lt lt_b1_b33)) W37 (Nat.ne_of_lt lt_b1_b33)) W38 (Nat.ne_of_lt lt_b1_b33)) W39 (Nat.ne_of_lt lt_b1_b33)) W40 (Nat.ne_of_lt lt_b1_b33)) W41 (Nat.ne_of_lt lt_b1_b33)) W42 (Nat.ne_of_lt lt_b1_b33)) W43 (Nat.ne_of_lt lt_b1_b33)) K44 (ninS (Nat.ne_of_lt lt_b1_b33) nin0))
    have A22_46 : own_Arr Z T44.heap b10 .int (own_put [(.int p3), (.int p3), (.int p3), (.int p3), (.int p3), (.int p3), (.int p3), (.int p3)] fb (own_sel mb u0 u1 u2 u3)) := (own_Arr.keep (own_Arr.other (own_Arr.other (own_Arr.other (own_Arr.other (own_Arr.other (own_Arr.other (own_Arr.other (own_Arr.other (own_Arr.ext A22_35 E33) W36 (Nat.ne_of_lt lt_b10_b33)) W37 (Nat.ne_of_lt lt_b10_b33)) W38 (Nat.ne_of_lt lt_b10_b33)) W39 (Nat.ne_of_lt lt_b10_b33)) W40 (Nat.ne_of_lt lt_b10_b33)) W41 (Nat.ne_of_lt lt_b10_b33)) W42 (Nat.ne_of_lt lt_b10_b33)) W43 (Nat.ne_of_lt lt_b10_b33)) K44 (ninS (Nat.ne_of_lt lt_b10_b33) nin0))
    have V32_47 : own_Arr Z T44.heap b23 .int [(.int p4), (.int p4), (.int p4), (.int p4), (.int p4), (.int p4), (.int p4), (.int p4)] := (own_Arr.keep (own_Arr.other (own_Arr.other (own_Arr.other (own_Arr.other (own_Arr.other (own_Arr.other (own_Arr.other (own_Arr.other (own_Arr.ext V32_0 E33) W36 (Nat.ne_of_lt lt_b23_b33)) W37 (Nat.ne_of_lt lt_b23_b33)) W38 (Nat.ne_of_lt lt_b23_b33)) W39 (Nat.ne_of_lt lt_b23_b33)) W40 (Nat.ne_of_lt lt_b23_b33)) W41 (Nat.ne_of_lt lt_b23_b33)) W42 (Nat.ne_of_lt lt_b23_b33)) W43 (Nat.ne_of_lt lt_b23_b33)) K44 (ninS (Nat.ne_of_lt lt_b23_b33) nin0))
    refine own_callS (W := 0) X44 hx hZ (y := (⟨"com/example/valuation/valuation/provenance/Monomial", "union", "([III[III[I)I"⟩ : MethodName)) hown (hw _ (List.mem_of_getElem? (i := 8) rfl)) (hw _ (List.mem_of_getElem? (i := 9) rfl)) (hw _ (List.mem_of_getElem? (i := 10) rfl)) (hw _ (List.mem_of_getElem? (i := 11) rfl)) (by decide) (by rw [hml]; rfl) (argsL := [(.ref b1), (.int af), (.int r20), (.ref b10), (.int bf), (.int r22), (.ref b23)]) pd_1 rfl (rm2 l Z a0 hw [] b1 af r20 b10 bf r22 b23 _ _ [(.int p4), (.int p4), (.int p4), (.int p4), (.int p4), (.int p4), (.int p4), (.int p4)] (own_sel ma u0 u1 u2 u3) (own_sel mb u0 u1 u2 u3) fa fb T44.heap n0 sz44 A20_45 A22_46 V32_47 (Nat.ne_of_lt lt_b1_b23) (Nat.ne_of_lt lt_b10_b23) g_b23 hfa.2 hr20 (own_put_At _ _ _ (by have := own_sel_len ma u0 u1 u2 u3; simp; omega)) hfb.2 hr22 (own_put_At _ _ _ (by have := own_sel_len mb u0 u1 u2 u3; simp; omega)) (by have := own_sel_len ma u0 u1 u2 u3; have := own_sel_len mb u0 u1 u2 u3; simp; omega)) (by decide) (by decide) (Nat.le_of_eq rfl) (by decide) (by decide) (rest := []) rfl rfl (hb hby at_306) ?_
    intro v48 T48 L48 X48 hQ48
    obtain ⟨r48, rfl, hr48, N48q, K48, A48⟩ := hQ48
    have N48 := Fr.app N44 N48q
    have sz48 : n0 ≤ T48.heap.size := Nat.le_trans sz44 K48.1
    rw [own_union hu0 hu1 hu2] at hr48 A48
    show own_Go p e below _ T48 (mkF m 309 #[.val (.int p1), .val (.int p2), .val (.int p3), .val (.int p4), .val (.int u1), .val (.int u0), .val (.int u1), .val (.int u2), .val (.int u3), .val (.int ma), .val (.int mb), .val (.int af), .val (.int bf), .val (.ref b1), .val (.ref b10), .val (.int r20), .val (.int r22), .val (.ref b23), .val (.ref b33), .val (.int r44), .unset] [(.int r48)])
    refine own_by (fun t_ k_ => XS.istore X48.here hx rfl (hb hby at_309) rfl (l' := #[.val (.int p1), .val (.int p2), .val (.int p3), .val (.int p4), .val (.int u1), .val (.int u0), .val (.int u1), .val (.int u2), .val (.int u3), .val (.int ma), .val (.int mb), .val (.int af), .val (.int bf), .val (.ref b1), .val (.ref b10), .val (.int r20), .val (.int r22), .val (.ref b23), .val (.ref b33), .val (.int r44), .val (.int r48)]) rfl k_) ?_
    show own_Go p e below _ T48 (mkF m 311 #[.val (.int p1), .val (.int p2), .val (.int p3), .val (.int p4), .val (.int u1), .val (.int u0), .val (.int u1), .val (.int u2), .val (.int u3), .val (.int ma), .val (.int mb), .val (.int af), .val (.int bf), .val (.ref b1), .val (.ref b10), .val (.int r20), .val (.int r22), .val (.ref b23), .val (.ref b33), .val (.int r44), .val (.int r48)] [])
    refine own_by (fun t_ k_ => XS.iload X48.here hx rfl (hb hby at_311) rfl k_) ?_
    show own_Go p e below _ T48 (mkF m 313 #[.val (.int p1), .val (.int p2), .val (.int p3), .val (.int p4), .val (.int u1), .val (.int u0), .val (.int u1), .val (.int u2), .val (.int u3), .val (.int ma), .val (.int mb), .val (.int af), .val (.int bf), .val (.ref b1), .val (.ref b10), .val (.int r20), .val (.int r22), .val (.ref b23), .val (.ref b33), .val (.int r44), .val (.int r48)] [(.int r48)])
    refine own_by (fun t_ k_ => XS.iload X48.here hx rfl (hb hby at_313) rfl k_) ?_
    show own_Go p e below _ T48 (mkF m 315 #[.val (.int p1), .val (.int p2), .val (.int p3), .val (.int p4), .val (.int u1), .val (.int u0), .val (.int u1), .val (.int u2), .val (.int u3), .val (.int ma), .val (.int mb), .val (.int af), .val (.int bf), .val (.ref b1), .val (.ref b10), .val (.int r20), .val (.int r22), .val (.ref b23), .val (.ref b33), .val (.int r44), .val (.int r48)] [(.int r44), (.int r48)])
    refine own_icmp X48 hx 332 (hb hby at_315) (by decide) (by decide) (fun hc => absurd (show r48 = r44 from Int32.toInt_inj.mp (by rw [hr48, hr44]; simp)) (by first | exact hc | exact not_not_intro hc)) (fun _ => ?_)
    show own_Go p e below _ T48 (mkF m 318 #[.val (.int p1), .val (.int p2), .val (.int p3), .val (.int p4), .val (.int u1), .val (.int u0), .val (.int u1), .val (.int u2), .val (.int u3), .val (.int ma), .val (.int mb), .val (.int af), .val (.int bf), .val (.ref b1), .val (.ref b10), .val (.int r20), .val (.int r22), .val (.ref b23), .val (.ref b33), .val (.int r44), .val (.int r48)] [])
    refine own_by (fun t_ k_ => XS.aload X48.here hx rfl (hb hby at_318) rfl rfl k_) ?_
    show own_Go p e below _ T48 (mkF m 320 #[.val (.int p1), .val (.int p2), .val (.int p3), .val (.int p4), .val (.int u1), .val (.int u0), .val (.int u1), .val (.int u2), .val (.int u3), .val (.int ma), .val (.int mb), .val (.int af), .val (.int bf), .val (.ref b1), .val (.ref b10), .val (.int r20), .val (.int r22), .val (.ref b23), .val (.ref b33), .val (.int r44), .val (.int r48)] [(.ref b23)])
    refine own_by (fun t_ k_ => XS.aload X48.here hx rfl (hb hby at_320) rfl rfl k_) ?_
    show own_Go p e below _ T48 (mkF m 322 #[.val (.int p1), .val (.int p2), .val (.int p3), .val (.int p4), .val (.int u1), .val (.int u0), .val (.int u1), .val (.int u2), .val (.int u3), .val (.int ma), .val (.int mb), .val (.int af), .val (.int bf), .val (.ref b1), .val (.ref b10), .val (.int r20), .val (.int r22), .val (.ref b23), .val (.ref b33), .val (.int r44), .val (.int r48)] [(.ref b33), (.ref b23)])
    have A44_49 : own_Arr Z T48.heap b33 .int (own_put [(.int p4), (.int p4), (.int p4), (.int p4), (.int p4), (.int p4), (.int p4), (.int p4)] 0 (own_sel (ma ||| mb) u0 u1 u2 u3)) := (own_Arr.keep A44 K48 (ninS (Ne.symm (Nat.ne_of_lt lt_b23_b33)) nin0))
    obtain ⟨x0, x1, x2, x3, x4, x5, x6, x7, hx8⟩ := own_eight p4 (own_sel (ma ||| mb) u0 u1 u2 u3)
    rw [hx8] at A48 A44_49
    refine own_callS (W := 0) X48 hx hZ (y := (⟨"com/example/valuation/valuation/provenance/MonomialUnionPinLaw", "same8", "([I[I)Z"⟩ : MethodName)) hown (hw _ (List.mem_of_getElem? (i := 12) rfl)) (hw _ (List.mem_of_getElem? (i := 13) rfl)) (hw _ (List.mem_of_getElem? (i := 6) rfl)) (hw _ (List.mem_of_getElem? (i := 14) rfl)) (by decide) (by rw [hml]; rfl) (argsL := [(.ref b23), (.ref b33)]) pd_2 rfl (rm3 l Z a0 hw [] b23 b33 x0 x1 x2 x3 x4 x5 x6 x7 x0 x1 x2 x3 x4 x5 x6 x7 T48.heap n0 sz48 A48 A44_49) (by decide) (by decide) (Nat.le_of_eq rfl) (by decide) (by decide) (rest := []) rfl rfl (hb hby at_322) ?_
    intro v50 T50 L50 X50 hQ50
    obtain ⟨hv50, N50q, e50⟩ := hQ50
    rw [if_pos rfl] at hv50
    subst hv50
    have N50 := Fr.app N48 N50q
    show own_Go p e below _ T50 (mkF m 325 #[.val (.int p1), .val (.int p2), .val (.int p3), .val (.int p4), .val (.int u1), .val (.int u0), .val (.int u1), .val (.int u2), .val (.int u3), .val (.int ma), .val (.int mb), .val (.int af), .val (.int bf), .val (.ref b1), .val (.ref b10), .val (.int r20), .val (.int r22), .val (.ref b23), .val (.ref b33), .val (.int r44), .val (.int r48)] [(.int (1 : Int32))])
    refine own_if X50 hx 332 (hb hby at_325) (by decide) (by decide) (fun hc => absurd (show ¬ (1 : Int32) = (0 : Int32) from by decide) (by first | exact hc | exact not_not_intro hc)) (fun _ => ?_)
    show own_Go p e below _ T50 (mkF m 328 #[.val (.int p1), .val (.int p2), .val (.int p3), .val (.int p4), .val (.int u1), .val (.int u0), .val (.int u1), .val (.int u2), .val (.int u3), .val (.int ma), .val (.int mb), .val (.int af), .val (.int bf), .val (.ref b1), .val (.ref b10), .val (.int r20), .val (.int r22), .val (.ref b23), .val (.ref b33), .val (.int r44), .val (.int r48)] [])
    refine own_by (fun t_ k_ => XS.iconst X50.here hx rfl (hb hby at_328) k_) ?_
    show own_Go p e below _ T50 (mkF m 329 #[.val (.int p1), .val (.int p2), .val (.int p3), .val (.int p4), .val (.int u1), .val (.int u0), .val (.int u1), .val (.int u2), .val (.int u3), .val (.int ma), .val (.int mb), .val (.int af), .val (.int bf), .val (.ref b1), .val (.ref b10), .val (.int r20), .val (.int r22), .val (.ref b23), .val (.ref b33), .val (.int r44), .val (.int r48)] [(.int (1 : Int32))])
    refine own_by (fun t_ k_ => XS.goto X50.here hx rfl (pc0 := 329) (pc' := 333) rfl (hb hby at_329) (by decide) (by decide) k_) ?_
    show own_Go p e below _ T50 (mkF m 333 #[.val (.int p1), .val (.int p2), .val (.int p3), .val (.int p4), .val (.int u1), .val (.int u0), .val (.int u1), .val (.int u2), .val (.int u3), .val (.int ma), .val (.int mb), .val (.int af), .val (.int bf), .val (.ref b1), .val (.ref b10), .val (.int r20), .val (.int r22), .val (.ref b23), .val (.ref b33), .val (.int r44), .val (.int r48)] [(.int (1 : Int32))])
    refine own_retZ X50 hx hlk Bd.returns (by decide) (hb hby at_333) e50 (by decide) (by decide) ?_
    exact ⟨rfl, N50⟩
  show own_Go p e below _ s₁ (mkF m 0 #[.val (.int p1), .val (.int p2), .val (.int p3), .val (.int p4), .unset, .unset, .unset, .unset, .unset, .unset, .unset, .unset, .unset, .unset, .unset, .unset, .unset, .unset, .unset, .unset, .unset] [])
  refine own_by (fun t_ k_ => XS.iloadN X0.here hx rfl (hb hby at_0) rfl k_) ?_
  show own_Go p e below _ s₁ (mkF m 1 #[.val (.int p1), .val (.int p2), .val (.int p3), .val (.int p4), .unset, .unset, .unset, .unset, .unset, .unset, .unset, .unset, .unset, .unset, .unset, .unset, .unset, .unset, .unset, .unset, .unset] [(.int p1)])
  refine own_by (fun t_ k_ => XS.istore X0.here hx rfl (hb hby at_1) rfl (l' := #[.val (.int p1), .val (.int p2), .val (.int p3), .val (.int p4), .val (.int p1), .unset, .unset, .unset, .unset, .unset, .unset, .unset, .unset, .unset, .unset, .unset, .unset, .unset, .unset, .unset, .unset]) rfl k_) ?_
  show own_Go p e below _ s₁ (mkF m 3 #[.val (.int p1), .val (.int p2), .val (.int p3), .val (.int p4), .val (.int p1), .unset, .unset, .unset, .unset, .unset, .unset, .unset, .unset, .unset, .unset, .unset, .unset, .unset, .unset, .unset, .unset] [])
  refine own_by (fun t_ k_ => XS.iload X0.here hx rfl (hb hby at_3) rfl k_) ?_
  show own_Go p e below _ s₁ (mkF m 5 #[.val (.int p1), .val (.int p2), .val (.int p3), .val (.int p4), .val (.int p1), .unset, .unset, .unset, .unset, .unset, .unset, .unset, .unset, .unset, .unset, .unset, .unset, .unset, .unset, .unset, .unset] [(.int p1)])
  refine own_by (fun t_ k_ => X0.ldcInt hx hown (mvT hZ (hw _ (List.mem_of_getElem? (i := 0) rfl))) (g := (mkF m 5 #[.val (.int p1), .val (.int p2), .val (.int p3), .val (.int p4), .val (.int p1), .unset, .unset, .unset, .unset, .unset, .unset, .unset, .unset, .unset, .unset, .unset, .unset, .unset, .unset, .unset, .unset] [(.int p1)])) rfl (hb hby at_5) _ k_) ?_
  show own_Go p e below _ s₁ (mkF m 7 #[.val (.int p1), .val (.int p2), .val (.int p3), .val (.int p4), .val (.int p1), .unset, .unset, .unset, .unset, .unset, .unset, .unset, .unset, .unset, .unset, .unset, .unset, .unset, .unset, .unset, .unset] [(.int (-2147483648 : Int32)), (.int p1)])
  refine own_icmp X0 hx 14 (hb hby at_7) (by decide) (by decide) (fun (hc7 : ¬ p1 = (-2147483648 : Int32)) => ?_) (fun (hc7 : p1 = (-2147483648 : Int32)) => ?_)
  · show own_Go p e below _ s₁ (mkF m 14 #[.val (.int p1), .val (.int p2), .val (.int p3), .val (.int p4), .val (.int p1), .unset, .unset, .unset, .unset, .unset, .unset, .unset, .unset, .unset, .unset, .unset, .unset, .unset, .unset, .unset, .unset] [])
    refine own_by (fun t_ k_ => XS.iload X0.here hx rfl (hb hby at_14) rfl k_) ?_
    show own_Go p e below _ s₁ (mkF m 16 #[.val (.int p1), .val (.int p2), .val (.int p3), .val (.int p4), .val (.int p1), .unset, .unset, .unset, .unset, .unset, .unset, .unset, .unset, .unset, .unset, .unset, .unset, .unset, .unset, .unset, .unset] [(.int p1)])
    refine own_by (fun t_ k_ => X0.ldcInt hx hown (mvT hZ (hw _ (List.mem_of_getElem? (i := 1) rfl))) (g := (mkF m 16 #[.val (.int p1), .val (.int p2), .val (.int p3), .val (.int p4), .val (.int p1), .unset, .unset, .unset, .unset, .unset, .unset, .unset, .unset, .unset, .unset, .unset, .unset, .unset, .unset, .unset, .unset] [(.int p1)])) rfl (hb hby at_16) _ k_) ?_
    show own_Go p e below _ s₁ (mkF m 18 #[.val (.int p1), .val (.int p2), .val (.int p3), .val (.int p4), .val (.int p1), .unset, .unset, .unset, .unset, .unset, .unset, .unset, .unset, .unset, .unset, .unset, .unset, .unset, .unset, .unset, .unset] [(.int (2147483646 : Int32)), (.int p1)])
    refine own_icmp X0 hx 25 (hb hby at_18) (by decide) (by decide) (fun (hc18 : p1 < (2147483646 : Int32)) => ?_) (fun (hc18 : ¬ p1 < (2147483646 : Int32)) => ?_)
    · have k1 : (-2147483648 : Int32).toInt = -2147483648 := by decide
      have k2 : (2147483646 : Int32).toInt = 2147483646 := by decide
      have q1 : ¬ p1.toInt = -2147483648 := fun q => hc7 (Int32.toInt_inj.mp (by rw [k1]; exact q))
      have q2 := Int32.lt_iff_toInt_lt.mp hc18
      have q3 := p1.le_toInt
      exact J25 _ (by omega) (by omega)
    · show own_Go p e below _ s₁ (mkF m 21 #[.val (.int p1), .val (.int p2), .val (.int p3), .val (.int p4), .val (.int p1), .unset, .unset, .unset, .unset, .unset, .unset, .unset, .unset, .unset, .unset, .unset, .unset, .unset, .unset, .unset, .unset] [])
      refine own_by (fun t_ k_ => X0.ldcInt hx hown (mvT hZ (hw _ (List.mem_of_getElem? (i := 16) rfl))) (g := (mkF m 21 #[.val (.int p1), .val (.int p2), .val (.int p3), .val (.int p4), .val (.int p1), .unset, .unset, .unset, .unset, .unset, .unset, .unset, .unset, .unset, .unset, .unset, .unset, .unset, .unset, .unset, .unset] [])) rfl (hb hby at_21) _ k_) ?_
      show own_Go p e below _ s₁ (mkF m 23 #[.val (.int p1), .val (.int p2), .val (.int p3), .val (.int p4), .val (.int p1), .unset, .unset, .unset, .unset, .unset, .unset, .unset, .unset, .unset, .unset, .unset, .unset, .unset, .unset, .unset, .unset] [(.int (2147483645 : Int32))])
      refine own_by (fun t_ k_ => XS.istore X0.here hx rfl (hb hby at_23) rfl (l' := #[.val (.int p1), .val (.int p2), .val (.int p3), .val (.int p4), .val (.int (2147483645 : Int32)), .unset, .unset, .unset, .unset, .unset, .unset, .unset, .unset, .unset, .unset, .unset, .unset, .unset, .unset, .unset, .unset]) rfl k_) ?_
      exact J25 _ (by decide) (by decide)
  · show own_Go p e below _ s₁ (mkF m 10 #[.val (.int p1), .val (.int p2), .val (.int p3), .val (.int p4), .val (.int p1), .unset, .unset, .unset, .unset, .unset, .unset, .unset, .unset, .unset, .unset, .unset, .unset, .unset, .unset, .unset, .unset] [])
    refine own_by (fun t_ k_ => X0.ldcInt hx hown (mvT hZ (hw _ (List.mem_of_getElem? (i := 15) rfl))) (g := (mkF m 10 #[.val (.int p1), .val (.int p2), .val (.int p3), .val (.int p4), .val (.int p1), .unset, .unset, .unset, .unset, .unset, .unset, .unset, .unset, .unset, .unset, .unset, .unset, .unset, .unset, .unset, .unset] [])) rfl (hb hby at_10) _ k_) ?_
    show own_Go p e below _ s₁ (mkF m 12 #[.val (.int p1), .val (.int p2), .val (.int p3), .val (.int p4), .val (.int p1), .unset, .unset, .unset, .unset, .unset, .unset, .unset, .unset, .unset, .unset, .unset, .unset, .unset, .unset, .unset, .unset] [(.int (-2147483647 : Int32))])
    refine own_by (fun t_ k_ => XS.istore X0.here hx rfl (hb hby at_12) rfl (l' := #[.val (.int p1), .val (.int p2), .val (.int p3), .val (.int p4), .val (.int (-2147483647 : Int32)), .unset, .unset, .unset, .unset, .unset, .unset, .unset, .unset, .unset, .unset, .unset, .unset, .unset, .unset, .unset, .unset]) rfl k_) ?_
    show own_Go p e below _ s₁ (mkF m 14 #[.val (.int p1), .val (.int p2), .val (.int p3), .val (.int p4), .val (.int (-2147483647 : Int32)), .unset, .unset, .unset, .unset, .unset, .unset, .unset, .unset, .unset, .unset, .unset, .unset, .unset, .unset, .unset, .unset] [])
    refine own_by (fun t_ k_ => XS.iload X0.here hx rfl (hb hby at_14) rfl k_) ?_
    show own_Go p e below _ s₁ (mkF m 16 #[.val (.int p1), .val (.int p2), .val (.int p3), .val (.int p4), .val (.int (-2147483647 : Int32)), .unset, .unset, .unset, .unset, .unset, .unset, .unset, .unset, .unset, .unset, .unset, .unset, .unset, .unset, .unset, .unset] [(.int (-2147483647 : Int32))])
    refine own_by (fun t_ k_ => X0.ldcInt hx hown (mvT hZ (hw _ (List.mem_of_getElem? (i := 1) rfl))) (g := (mkF m 16 #[.val (.int p1), .val (.int p2), .val (.int p3), .val (.int p4), .val (.int (-2147483647 : Int32)), .unset, .unset, .unset, .unset, .unset, .unset, .unset, .unset, .unset, .unset, .unset, .unset, .unset, .unset, .unset, .unset] [(.int (-2147483647 : Int32))])) rfl (hb hby at_16) _ k_) ?_
    show own_Go p e below _ s₁ (mkF m 18 #[.val (.int p1), .val (.int p2), .val (.int p3), .val (.int p4), .val (.int (-2147483647 : Int32)), .unset, .unset, .unset, .unset, .unset, .unset, .unset, .unset, .unset, .unset, .unset, .unset, .unset, .unset, .unset, .unset] [(.int (2147483646 : Int32)), (.int (-2147483647 : Int32))])
    refine own_icmp X0 hx 25 (hb hby at_18) (by decide) (by decide) (fun _ => ?_) (fun hc => absurd (show (-2147483647 : Int32) < (2147483646 : Int32) from by decide) (by first | exact hc | exact not_not_intro hc))
    exact J25 _ (by decide) (by decide)
set_option maxRecDepth 65536 in
set_option maxHeartbeats 40000000 in
theorem comes_1 {Post : Tables → Env → Array Value → State → Outcome → State → Prop} (hpost : ∀ tb e args s v u, (limb_1_1.after args s (.returned v) u = true ∧ limb_1_2.after args s (.returned v) u = true ∧ True) → FrameEnd s (.returned v) u (Jvm.fieldLocs frame_1_writes args s ++ Jvm.arrayLocs frame_1_arrays args s ++ Jvm.staticLocs frame_1_statics s) 16 128 → Post tb e args s (.returned v) u) :
    ArmFor flags0 classFile x code maxLocals ret World_1 tables_1 room_1 Calls_1 rest_1 Pre_1 Post := by
  intro l hfl _ _ p e ha hc hk s m args below hf hA hF happ hP
  obtain ⟨hcalls, hrest, hpre⟩ := hP
  obtain ⟨-, -, -, hnamed, -, -, -, hat⟩ := (Spec.applies_iff hf).mp happ
  obtain ⟨hg, hn⟩ := and_e (Cond.before_iff.mp (show (Jvm.Cond.and given_1 narrow_1).before args s = true from hpre))
  obtain ⟨gc, gr0⟩ := and_e hg
  obtain ⟨ga0, gr1⟩ := and_e gr0
  obtain ⟨ga1, gr2⟩ := and_e gr1
  obtain ⟨ga2, gr3⟩ := and_e gr2
  obtain ⟨w0, w1, w2, w3, rfl⟩ : ∃ w0 w1 w2 w3 : Value, args = #[w0, w1, w2, w3] := by
    have hs : args.size = 4 := by simpa [Cond.value, given_1] using gc
    obtain ⟨L⟩ := args
    match L, hs with
    | [w0, w1, w2, w3], _ => exact ⟨w0, w1, w2, w3, rfl⟩
  have hw := fun d (hd : d ∈ tables_1) => atoms_spec (ws := Jvm.Cond.code x code maxLocals ret :: tables_1) hat d (List.mem_cons_of_mem _ hd)
  have hfit : Fit s := fun {y c} hc i hi => by
    obtain ⟨ha, rfl⟩ := Array.getElem?_eq_some_iff.mp hc
    have q := List.all_eq_true.mp ((Array.all_eq_true_iff_forall_mem.mp hF) _ (Array.getElem_mem ha)) i (List.mem_range.mpr hi)
    simpa [Array.getElem?_eq_getElem hi] using q
  obtain ⟨i0, ei0⟩ := is_v ga0
  obtain rfl : w0 = (.int i0) := Option.some.inj ei0
  obtain ⟨i1, ei1⟩ := is_v ga1
  obtain rfl : w1 = (.int i1) := Option.some.inj ei1
  obtain ⟨i2, ei2⟩ := is_v ga2
  obtain rfl : w2 = (.int i2) := Option.some.inj ei2
  obtain ⟨i3, ei3⟩ := is_v gr3
  obtain rfl : w3 = (.int i3) := Option.some.inj ei3
  obtain ⟨n, o, h1, h2, h3, _, L, rfl, ⟨rfl, N⟩, hq⟩ := rm0 l s _ hw tables_1 i0 i1 i2 i3 s.heap s.heap.size (Nat.le_refl _) p e ha hc hk s m _ below hf ((Spec.applies_iff_loose hf).mp happ).1 ⟨rfl, State.Warmed39.refl s, rfl⟩ trivial
  refine ⟨n, _, h1, h2, h3, hpost _ _ _ _ _ _ ⟨Cond.after_iff.mpr rfl, Cond.after_iff.mpr (eq_i res_at (Term.int_eval (1)) rfl), trivial⟩ ⟨hq.1, hq.2.1, (hq.2.2.sift fun y hy => Or.inr (N y hy)).mono (by decide) (by decide)⟩⟩
theorem main_1_1 : Claimed_1_1 := comes_1 fun _ _ _ _ _ _ h hF => ⟨h.1, hF⟩
theorem main_1_2 : Claimed_1_2 := comes_1 fun _ _ _ _ _ _ h hF => ⟨h.2.1, hF⟩
end Jvm.Pilot.@@N@@
namespace Jvm.Pilot.@@N@@
open Jvm Jvm.ClassFile Sem Op Lib Jvm.Free Jvm.Stand Jvm.Pilot.@@N@@.Jvm.D
/-! MADE BY PROGRAM (witnessworld.py) out of the Statement's table words and the real class files: 10 classes; the members and pool entries that the words name. The judged class is class 1, her method 3. -/
namespace start1
open Jvm.ClassFile
def u (s : String) : CpInfo := .utf8 (stringToUtf16 s)
/-- a pool by its gaps: so many unusable entries, then the entry; so many at the end -/
def gap : Nat → List CpInfo → List CpInfo
  | 0, r => r
  | n + 1, r => .unusable :: gap n r
def poolList (es : List (Nat × CpInfo)) (last : Nat) : List CpInfo := es.foldr (fun e r => gap e.1 (e.2 :: r)) (gap last [])
def pool (es : List (Nat × CpInfo)) (last : Nat) : Array CpInfo := ⟨poolList es last⟩
def fileOf (pool : Array CpInfo) (this : Nat) (attrs : Array Attribute := #[]) (ms : Array MethodInfo := #[]) (fl : Nat := 33) (sup : Nat := 0) (ifs : Array Nat := #[]) (fds : Array FieldInfo := #[]) : ClassFile where
  minorVersion := 0
  majorVersion := 65
  constantPool := pool
  accessFlags := fl
  thisClass := this
  superClass := sup
  interfaces := ifs
  fields := fds
  methods := ms
  attributes := attrs
def plain (name : String) (sup : Option ClassId) : Class where
  name := name
  kind := .ordinary
  loader := none
  accessFlags := 33
  super := sup
  interfaces := #[]
  cf := none
  fields := #[]
  methods := #[]
  instanceTypes := #[]
  staticTypes := #[]
  resolved := #[]
  callSites := []
  init := .initialized
  statics := none
  mirror := none

def pool0 : Array CpInfo := pool [(5, u "<init>"), (0, u "()V"), (1, .class_ 10), (1, u "java/lang/Object")] 113

def k0m0 : Method := { name := "<init>", desc := "()V", sig := { parameters := [], returnType := none }, accessFlags := 1, code := none }
/-- java/lang/Object -/
def k0 : Class := { plain "java/lang/Object" none with
  accessFlags := 33
  interfaces := #[]
  cf := some (fileOf pool0 8 #[] #[{ accessFlags := 1, nameIndex := 5, descriptorIndex := 6, attributes := #[] }] 33 0 #[] #[])
  fields := #[]
  methods := #[k0m0]
  instanceTypes := #[]
  staticTypes := #[]
  resolved := Array.replicate 124 none
  statics := none }

def pool1 : Array CpInfo := pool [(2, .class_ 4), (1, u "java/lang/Object"), (0, u "<init>"), (0, u "()V"), (2, .integer 2147483648), (0, .integer 2147483649), (0, .integer 2147483646), (0, .integer 2147483645), (0, .integer 2147483647), (0, .methodref 15 16), (0, .class_ 17), (0, .nameAndType 18 19), (0, u "com/example/valuation/valuation/provenance/MonomialUnionPinLaw"), (0, u "place"), (0, u "([IIIIIII)I"), (0, .methodref 21 22), (0, .class_ 23), (0, .nameAndType 24 25), (0, u "com/example/valuation/valuation/provenance/Monomial"), (0, u "union"), (0, u "([III[III[I)I"), (0, .methodref 15 27), (0, .nameAndType 28 29), (0, u "same8"), (0, u "([I[I)Z"), (3, u "law"), (0, u "(IIII)Z")] 4

def k1m0 : Method := { name := "<init>", desc := "()V", sig := { parameters := [], returnType := none }, accessFlags := 1, code := none }
def k1c1 : Code := { maxStack := 3, maxLocals := 8, code := method_2_code, exceptionTable := #[], attributes := #[] }
def k1m1 : Method := { name := "place", desc := "([IIIIIII)I", sig := { parameters := [(.array .int), .int, .int, .int, .int, .int, .int], returnType := some .int }, accessFlags := 10, code := some k1c1 }
def k1c2 : Code := { maxStack := 3, maxLocals := 2, code := method_3_code, exceptionTable := #[], attributes := #[] }
def k1m2 : Method := { name := "same8", desc := "([I[I)Z", sig := { parameters := [(.array .int), (.array .int)], returnType := some .boolean }, accessFlags := 10, code := some k1c2 }
def k1c3 : Code := { maxStack := 7, maxLocals := 21, code := code, exceptionTable := #[], attributes := #[] }
def k1m3 : Method := { name := "law", desc := "(IIII)Z", sig := { parameters := [.int, .int, .int, .int], returnType := some .boolean }, accessFlags := 9, code := some k1c3 }
/-- com/example/valuation/valuation/provenance/MonomialUnionPinLaw -/
def k1 : Class := { plain "com/example/valuation/valuation/provenance/MonomialUnionPinLaw" (some 0) with
  accessFlags := 49
  interfaces := #[]
  cf := some (fileOf pool1 15 #[] #[{ accessFlags := 1, nameIndex := 5, descriptorIndex := 6, attributes := #[] }, { accessFlags := 10, nameIndex := 18, descriptorIndex := 19, attributes := #[] }, { accessFlags := 10, nameIndex := 28, descriptorIndex := 29, attributes := #[] }, { accessFlags := 9, nameIndex := 33, descriptorIndex := 34, attributes := #[] }] 49 2 #[] #[])
  fields := #[]
  methods := #[k1m0, k1m1, k1m2, k1m3]
  instanceTypes := #[]
  staticTypes := #[]
  resolved := Array.replicate 39 none
  statics := none }

def pool2 : Array CpInfo := pool [(1, .class_ 2), (0, u "java/lang/Comparable"), (0, .class_ 4), (0, u "java/lang/Object")] 7

/-- java/lang/Comparable -/
def k2 : Class := { plain "java/lang/Comparable" (some 0) with
  accessFlags := 1537
  interfaces := #[]
  cf := some (fileOf pool2 1 #[] #[] 1537 3 #[] #[])
  fields := #[]
  methods := #[]
  instanceTypes := #[]
  staticTypes := #[]
  resolved := Array.replicate 12 none
  statics := none }

def pool3 : Array CpInfo := pool [(2, .class_ 4), (1, u "java/lang/Object"), (3, .class_ 10), (1, u "com/example/valuation/valuation/provenance/Monomial"), (0, u "table"), (0, u "Lcom/example/valuation/valuation/provenance/TokenTable;"), (2, u "numbers"), (0, u "[I"), (2, u "tokens"), (0, u "[Ljava/lang/String;"), (8, u "hash"), (0, u "I"), (2, u "withoutSurrogates"), (0, u "Z"), (70, u "union"), (0, u "([III[III[I)I"), (16, u "ONE"), (0, u "Lcom/example/valuation/valuation/provenance/Monomial;"), (23, .class_ 149), (0, u "com/example/valuation/valuation/provenance/Monomial$Tokens"), (77, .class_ 228), (0, u "java/lang/Comparable"), (0, u "TERM_END")] 54

def k3c0 : Code := { maxStack := 4, maxLocals := 10, code := prog_29_method_6_code, exceptionTable := #[], attributes := #[] }
def k3m0 : Method := { name := "union", desc := "([III[III[I)I", sig := { parameters := [(.array .int), .int, .int, (.array .int), .int, .int, (.array .int)], returnType := some .int }, accessFlags := 8, code := some k3c0 }
/-- com/example/valuation/valuation/provenance/Monomial -/
def k3 : Class := { plain "com/example/valuation/valuation/provenance/Monomial" (some 0) with
  accessFlags := 49
  interfaces := #[2]
  cf := some (fileOf pool3 8 #[.nestMembers #[148]] #[{ accessFlags := 8, nameIndex := 105, descriptorIndex := 106, attributes := #[] }] 49 2 #[227] #[{ accessFlags := 25, nameIndex := 123, descriptorIndex := 124, attributes := #[] }, { accessFlags := 26, nameIndex := 229, descriptorIndex := 30, attributes := #[] }, { accessFlags := 18, nameIndex := 11, descriptorIndex := 12, attributes := #[] }, { accessFlags := 18, nameIndex := 15, descriptorIndex := 16, attributes := #[] }, { accessFlags := 18, nameIndex := 19, descriptorIndex := 20, attributes := #[] }, { accessFlags := 18, nameIndex := 29, descriptorIndex := 30, attributes := #[] }, { accessFlags := 18, nameIndex := 33, descriptorIndex := 34, attributes := #[] }])
  fields := #[{ name := "ONE", type := (.object "com/example/valuation/valuation/provenance/Monomial"), accessFlags := 25, slot := 0, constantValue := 0 }, { name := "TERM_END", type := .int, accessFlags := 26, slot := 1, constantValue := 0 }, { name := "table", type := (.object "com/example/valuation/valuation/provenance/TokenTable"), accessFlags := 18, slot := 0, constantValue := 0 }, { name := "numbers", type := (.array .int), accessFlags := 18, slot := 1, constantValue := 0 }, { name := "tokens", type := (.array (.object "java/lang/String")), accessFlags := 18, slot := 2, constantValue := 0 }, { name := "hash", type := .int, accessFlags := 18, slot := 3, constantValue := 0 }, { name := "withoutSurrogates", type := .boolean, accessFlags := 18, slot := 4, constantValue := 0 }]
  methods := #[k3m0]
  instanceTypes := #[(.object "com/example/valuation/valuation/provenance/TokenTable"), (.array .int), (.array (.object "java/lang/String")), .int, .boolean]
  staticTypes := #[(.object "com/example/valuation/valuation/provenance/Monomial"), .int]
  resolved := Array.replicate 284 none
  statics := none }

def pool4 : Array CpInfo := pool [(1, u "java/lang/Cloneable"), (0, .class_ 1), (0, u "java/lang/Object"), (0, .class_ 3)] 3

/-- java/lang/Cloneable -/
def k4 : Class := { plain "java/lang/Cloneable" (some 0) with
  accessFlags := 1537
  interfaces := #[]
  cf := some (fileOf pool4 2 #[] #[] 1537 4 #[] #[])
  fields := #[]
  methods := #[]
  instanceTypes := #[]
  staticTypes := #[]
  resolved := Array.replicate 8 none
  statics := none }

def pool5 : Array CpInfo := pool [(1, u "java/io/Serializable"), (0, .class_ 1), (0, u "java/lang/Object"), (0, .class_ 3)] 3

/-- java/io/Serializable -/
def k5 : Class := { plain "java/io/Serializable" (some 0) with
  accessFlags := 1537
  interfaces := #[]
  cf := some (fileOf pool5 2 #[] #[] 1537 4 #[] #[])
  fields := #[]
  methods := #[]
  instanceTypes := #[]
  staticTypes := #[]
  resolved := Array.replicate 8 none
  statics := none }

/-- the primitive byte -/
def k6 : Class := { plain "byte" none with kind := .primitive 'B', accessFlags := 0x411 }
/-- [B -/
def k7 : Class := { plain "[B" (some 0) with kind := .array 6 .byte, interfaces := #[4, 5], accessFlags := 1041 }

/-- the primitive int -/
def k8 : Class := { plain "int" none with kind := .primitive 'I', accessFlags := 0x411 }
/-- [I -/
def k9 : Class := { plain "[I" (some 0) with kind := .array 8 .int, interfaces := #[4, 5], accessFlags := 1041 }

def heap : Heap := #[]
def classes : Array Class := #[k0, k1, k2, k3, k4, k5, k6, k7, k8, k9]
def interned : List (Array UInt16 × Addr) := []
def slotsUsed : Nat := 0
def theMethod : MethodId := ⟨1, 3⟩
def args0 : Array Value := #[.int 5, .int 77, .int 1, .int 2]
def aboutOver (below : List Frame) : State where
  vm := { classes := classes, interned := interned.toArray }
  heap := heap
  slotsUsed := slotsUsed
  threads := #[{ frames := .invoking theMethod args0 :: below }]
def below0 : List Frame := [.native { method := ⟨0, 0⟩, args := #[] }]
def about1 : State := aboutOver below0
def p0 : Program := .bare "" "" ""
def e0 : Env := launch0.env 0 0 0
theorem w_frames : about1.frames = Frame.invoking theMethod args0 :: below0 := rfl
set_option maxRecDepth 65536 in
theorem w_args : argsFit about1.vm theMethod args0 = true := by decide +kernel
set_option maxRecDepth 65536 in
theorem w_heap : heapFits about1 = true := by decide +kernel
set_option maxRecDepth 65536 in
theorem w_runnable : about1.curStatus? = some .runnable := by decide +kernel
set_option maxRecDepth 65536 in
theorem w_alone : about1.alone = true := by decide +kernel
set_option maxRecDepth 65536 in
theorem w_named : about1.methodNamed? x = some theMethod := by decide +kernel
set_option maxRecDepth 65536 in
theorem w_hears : about1.hears theMethod below0 = true := by decide +kernel
set_option maxRecDepth 65536 in
theorem w_ripe : about1.ripe theMethod args0 below0 = true := by decide +kernel
theorem w_running : about1.status = .running := rfl
set_option maxRecDepth 65536 in
theorem w_room : about1.hasRoom e0.platform room_1 = true :=
  launch0.hasRoom_least _ room_1 (by decide +kernel) (by decide +kernel) (by decide +kernel) (by decide +kernel) (by decide +kernel) (by decide +kernel)
theorem allAtoms_all (ts : List Jvm.Cond) (a : Array Jvm.Value) (st : Jvm.State) : (allAtoms ts).before a st = ts.all (fun c => c.before a st) := by
  induction ts with
  | nil => rfl
  | cons c t ih =>
    show (Jvm.Cond.and c (allAtoms t)).before a st = _
    rw [Jvm.Cond.before_and, ih, List.all_cons]
def words1 : List Jvm.Cond := Jvm.Cond.code x code maxLocals ret :: tables_1
/-- a 'code' word, met by the world's own term for the bytes: nothing is compared byte by byte -/
theorem code_word {y : MethodName} {bytes : ByteArray} {mx : Nat} {rt : Option FieldType} {a : Array Value} {s : State} {m : MethodId} {meth : Method} {c : Code} (h1 : s.methodNamed? y = some m) (h2 : s.vm.method? m = some meth) (h3 : meth.code = some c) (h4 : c.code = bytes)
    (h5 : (c.maxLocals == mx && c.exceptionTable.isEmpty && decide (c.maxStack ≤ mostOperands) && decide (meth.sig.returnType = rt) && !meth.locks && decide (parseMethodDescriptor y.desc = some meth.sig)) = true) : (Jvm.Cond.code y bytes mx rt).before a s = true := by
  simp only [Bool.and_eq_true, beq_iff_eq, Bool.not_eq_true', decide_eq_true_eq] at h5
  obtain ⟨⟨⟨⟨⟨g1, g2⟩, g3⟩, g4⟩, g5⟩, g6⟩ := h5
  simp [Cond.before, Cond.holds, Cond.value, h1, h2, h3, h4, g1, g2, g3, g4, g5, g6]
def isCode : Jvm.Cond → Bool
  | .code _ _ _ _ => true
  | _ => false
theorem all_split {L : List Jvm.Cond} {P : Jvm.Cond → Bool} (h1 : L.all (fun c => isCode c || P c) = true) (h2 : ∀ c ∈ L.filter isCode, P c = true) : L.all P = true := by
  refine List.all_eq_true.mpr fun c hc => ?_
  have h := List.all_eq_true.mp h1 c hc
  rcases Bool.eq_false_or_eq_true (isCode c) with hi | hi
  · exact h2 c (List.mem_filter.mpr ⟨hc, hi⟩)
  · simpa [hi] using h
set_option maxRecDepth 65536 in
theorem w_c0 : (Jvm.Cond.code x code maxLocals ret).before args0 about1 = true := code_word (m := ⟨1, 3⟩) (meth := k1m3) (c := k1c3) (by decide +kernel) rfl rfl rfl (by decide +kernel)
set_option maxRecDepth 65536 in
theorem w_c1 : (Jvm.Cond.code ({ cls := "com/example/valuation/valuation/provenance/MonomialUnionPinLaw", name := "place", desc := "([IIIIIII)I" } : Jvm.MethodName) method_2_code (8 : Nat) (Option.some Jvm.ClassFile.FieldType.int)).before args0 about1 = true := code_word (m := ⟨1, 1⟩) (meth := k1m1) (c := k1c1) (by decide +kernel) rfl rfl rfl (by decide +kernel)
set_option maxRecDepth 65536 in
theorem w_c2 : (Jvm.Cond.code ({ cls := "com/example/valuation/valuation/provenance/Monomial", name := "union", desc := "([III[III[I)I" } : Jvm.MethodName) prog_29_method_6_code (10 : Nat) (Option.some Jvm.ClassFile.FieldType.int)).before args0 about1 = true := code_word (m := ⟨3, 0⟩) (meth := k3m0) (c := k3c0) (by decide +kernel) rfl rfl rfl (by decide +kernel)
set_option maxRecDepth 65536 in
theorem w_c3 : (Jvm.Cond.code ({ cls := "com/example/valuation/valuation/provenance/MonomialUnionPinLaw", name := "same8", desc := "([I[I)Z" } : Jvm.MethodName) method_3_code (2 : Nat) (Option.some Jvm.ClassFile.FieldType.boolean)).before args0 about1 = true := code_word (m := ⟨1, 2⟩) (meth := k1m2) (c := k1c2) (by decide +kernel) rfl rfl rfl (by decide +kernel)
def codes1 : List Jvm.Cond := [Jvm.Cond.code x code maxLocals ret, Jvm.Cond.code ({ cls := "com/example/valuation/valuation/provenance/MonomialUnionPinLaw", name := "place", desc := "([IIIIIII)I" } : Jvm.MethodName) method_2_code (8 : Nat) (Option.some Jvm.ClassFile.FieldType.int), Jvm.Cond.code ({ cls := "com/example/valuation/valuation/provenance/Monomial", name := "union", desc := "([III[III[I)I" } : Jvm.MethodName) prog_29_method_6_code (10 : Nat) (Option.some Jvm.ClassFile.FieldType.int), Jvm.Cond.code ({ cls := "com/example/valuation/valuation/provenance/MonomialUnionPinLaw", name := "same8", desc := "([I[I)Z" } : Jvm.MethodName) method_3_code (2 : Nat) (Option.some Jvm.ClassFile.FieldType.boolean)]
set_option maxRecDepth 65536 in
theorem codes_eq : words1.filter isCode = codes1 := rfl
theorem w_codes : ∀ c ∈ words1.filter isCode, c.before args0 about1 = true := by
  rw [codes_eq]
  intro c hc
  simp only [codes1, List.mem_cons, List.not_mem_nil, or_false] at hc
  rcases hc with rfl | rfl | rfl | rfl
  · exact w_c0
  · exact w_c1
  · exact w_c2
  · exact w_c3
set_option maxRecDepth 65536 in
theorem w_t1 : words1.all (fun c => isCode c || c.before args0 about1) = true := by decide +kernel
theorem w_tables : (allAtoms (Jvm.Cond.code x code maxLocals ret :: tables_1)).before args0 about1 = true := by
  rw [allAtoms_all]
  show words1.all (fun c => c.before args0 about1) = true
  refine all_split ?_ w_codes
  rw [w_t1]
set_option maxRecDepth 65536 in
theorem w_case : (Jvm.Cond.and given_1 narrow_1).before args0 about1 = true := by decide +kernel
theorem w_applies : (headSpec (Jvm.Cond.code x code maxLocals ret :: tables_1) room_1).applies x e0.platform about1 = true :=
  (Spec.applies_iff w_frames).mpr ⟨w_running, w_runnable, w_alone, w_named, w_hears, w_ripe, w_room, w_tables⟩
theorem atStart : AtStart classFile x code maxLocals ret World_1 tables_1 room_1 Calls_1 rest_1 Pre_1 launch0 p0 e0 about1 theMethod args0 below0 :=
  ⟨lists_1, trivial, launch0.admits_env _ _ _, launch0.least_env, fairChoices_fair.cas, fairChoices_fair.clock, w_frames, w_args, w_heap, w_applies, trivial, trivial, w_case⟩
end start1
theorem witness_1 : WitnessClaimed_1 := ⟨start1.p0, start1.e0, start1.about1, start1.theMethod, start1.args0, start1.below0, start1.atStart⟩
end Jvm.Pilot.@@N@@
