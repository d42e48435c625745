import JvmDerived
import JvmDerived.Pilot.@@N@@Statement
import JvmDerived.Pilot.@@N@@Code
set_option linter.unusedVariables false
set_option linter.unusedSimpArgs false
@@BLOCK:NumsL.lean.txt@@
namespace Jvm.Pilot.@@N@@
open Jvm Jvm.ClassFile Sem Op Lib Jvm.Free Jvm.Stand Jvm.LawKit Jvm.RoadKit Bundle Jvm.Pilot.@@N@@.Jvm.D
section OwnKit
variable {p : Program} {l : Launch} {e : Env} {R : Room} {s : State} {m : MethodId} {args : Array Value} {below : List Frame} {meth : Method} {c : Code} {T T' : State} {locs : List Loc} {cells slots : Nat} {Q : Option Value → Heap → List Loc → Prop} {k n : Nat} {Fin : Outcome → State → Prop} {Z : State} {a0 : Array Value} {h : Heap} {pc : Nat} {Ls : Array Slot} {rest : List Value}
/-- from this frame on the body ends as Fin says -/
def own_Go (p : Program) (e : Env) (below : List Frame) (Fin : Outcome → State → Prop) (T : State) (f : JFrame) : Prop :=
  ∃ s₂ o, Steps p.tables e below (T.setTop f) s₂ ∧ s₂.status = .running ∧ Ended s₂ below o ∧ Fin o s₂
/-- it returned, as Q says; the frame as ever -/
def own_Fin (s : State) (Q : Option Value → Heap → List Loc → Prop) (k n : Nat) (o : Outcome) (t : State) : Prop := ∃ v L, o = .returned v ∧ Q v t.heap L ∧ FrameEnd s o t L k n
/-- it returned, as Q says; String constants may have been resolved -/
def own_FinW (s : State) (Q : Option Value → Heap → List Loc → Prop) (k n : Nat) (o : Outcome) (t : State) : Prop := ∃ v L, o = .returned v ∧ Q v t.heap L ∧ ReturnedEndW s o t L k n
theorem own_by {f f' : JFrame} (st : ∀ t, Steps p.tables e below (T'.setTop f') t → Steps p.tables e below (T.setTop f) t) (g : own_Go p e below Fin T' f') : own_Go p e below Fin T f := by
  obtain ⟨s₂, o, h, r⟩ := g
  exact ⟨s₂, o, st _ h, r⟩
theorem own_start {f f' : JFrame} (q : f = f') (g : own_Go p e below (own_Fin s Q k n) T f') : ∃ s₂ o, Steps p.tables e below (T.setTop f) s₂ ∧ s₂.status = .running ∧ Ended s₂ below o ∧ ∃ v L, o = .returned v ∧ Q v s₂.heap L ∧ FrameEnd s o s₂ L k n := by
  subst q; exact g
theorem own_startW {f f' : JFrame} (q : f = f') (g : own_Go p e below (own_FinW s Q k n) T f') : ∃ s₂ o, Steps p.tables e below (T.setTop f) s₂ ∧ s₂.status = .running ∧ Ended s₂ below o ∧ ∃ v L, o = .returned v ∧ Q v s₂.heap L ∧ ReturnedEndW s o s₂ L k n := by
  subst q; exact g
theorem own_ret (X : Stand p l e R s m args below meth c T locs cells slots) (hx : p.tables.exec = Jvm.exec) (hlk : meth.locks = false) {w : Value} {t : FieldType} {i : Instr} (hret : meth.sig.returnType = some t)
    (hi : (i = .ireturn ∧ (t = .int ∨ t = .boolean ∨ t = .byte ∨ t = .char ∨ t = .short) ∧ ∃ z, w = .int z) ∨ (i = .lreturn ∧ t = .long ∧ ∃ z, w = .long z) ∨ (i = .dreturn ∧ t = .double ∧ ∃ z, w = .double z) ∨ (i = .freturn ∧ t = .float ∧ ∃ z, w = .float z) ∨ (i = .areturn ∧ t.isReference = true ∧ w.isRef = true))
    (hn : narrow t w = w) (hd : decode c.code pc = .ok (i, 1)) (eT : T.heap = h) (hk : cells ≤ k) (hs : slots ≤ n) (q : Q (some w) h locs) : own_Go p e below (own_Fin s Q k n) T (mkF m pc Ls (w :: rest)) := by
  obtain ⟨fs, hr, hrun, hended, hW, hsame⟩ := X.leave (v := some w) (fun h => by rw [hret] at h; cases h) hlk
  refine ⟨_, _, retOut X hx hret hn hi hd hr, hrun, hended, _, _, rfl, ?_, ⟨_, rfl⟩, hW, hsame.mono hk hs⟩
  show Q _ T.heap _
  rw [eT]; exact q
theorem own_retI (X : Stand p l e R s m args below meth c T locs cells slots) (hx : p.tables.exec = Jvm.exec) (hlk : meth.locks = false) {z : Int32} (hret : meth.sig.returnType = some .int) (hd : decode c.code pc = .ok (.ireturn, 1)) (eT : T.heap = h) (hk : cells ≤ k) (hs : slots ≤ n) (q : Q (some (.int z)) h locs) : own_Go p e below (own_Fin s Q k n) T (mkF m pc Ls (.int z :: rest)) :=
  own_ret X hx hlk hret (Or.inl ⟨rfl, Or.inl rfl, z, rfl⟩) rfl hd eT hk hs q
theorem own_retZ (X : Stand p l e R s m args below meth c T locs cells slots) (hx : p.tables.exec = Jvm.exec) (hlk : meth.locks = false) {z : Int32} (hret : meth.sig.returnType = some .boolean) (hz : z = 0 ∨ z = 1) (hd : decode c.code pc = .ok (.ireturn, 1)) (eT : T.heap = h) (hk : cells ≤ k) (hs : slots ≤ n) (q : Q (some (.int z)) h locs) : own_Go p e below (own_Fin s Q k n) T (mkF m pc Ls (.int z :: rest)) :=
  own_ret X hx hlk hret (Or.inl ⟨rfl, Or.inr (Or.inl rfl), z, rfl⟩) (by rcases hz with rfl | rfl <;> rfl) hd eT hk hs q
theorem own_retJ (X : Stand p l e R s m args below meth c T locs cells slots) (hx : p.tables.exec = Jvm.exec) (hlk : meth.locks = false) {z : Int64} (hret : meth.sig.returnType = some .long) (hd : decode c.code pc = .ok (.lreturn, 1)) (eT : T.heap = h) (hk : cells ≤ k) (hs : slots ≤ n) (q : Q (some (.long z)) h locs) : own_Go p e below (own_Fin s Q k n) T (mkF m pc Ls (.long z :: rest)) :=
  own_ret X hx hlk hret (Or.inr (Or.inl ⟨rfl, rfl, z, rfl⟩)) rfl hd eT hk hs q
theorem own_retR (X : Stand p l e R s m args below meth c T locs cells slots) (hx : p.tables.exec = Jvm.exec) (hlk : meth.locks = false) {w : Value} {t : FieldType} (hret : meth.sig.returnType = some t) (ht : t.isReference = true) (hw : w.isRef = true) (hn : narrow t w = w) (hd : decode c.code pc = .ok (.areturn, 1)) (eT : T.heap = h) (hk : cells ≤ k) (hs : slots ≤ n) (q : Q (some w) h locs) : own_Go p e below (own_Fin s Q k n) T (mkF m pc Ls (w :: rest)) :=
  own_ret X hx hlk hret (Or.inr (Or.inr (Or.inr (Or.inr ⟨rfl, ht, hw⟩)))) hn hd eT hk hs q
theorem own_retV (X : Stand p l e R s m args below meth c T locs cells slots) (hx : p.tables.exec = Jvm.exec) (hlk : meth.locks = false) (hret : meth.sig.returnType = none) (hd : decode c.code pc = .ok (.return_, 1)) (eT : T.heap = h) (hk : cells ≤ k) (hs : slots ≤ n) (q : Q none h locs) : own_Go p e below (own_Fin s Q k n) T (mkF m pc Ls []) := by
  obtain ⟨fs, hr, hrun, hended, hW, hsame⟩ := X.leave (v := none) (fun _ => rfl) hlk
  refine ⟨_, _, X.returnOut hx hret hd hr, hrun, hended, _, _, rfl, ?_, ⟨_, rfl⟩, hW, hsame.mono hk hs⟩
  show Q _ T.heap _
  rw [eT]; exact q
/-- a conditional branch as a plain comparison -/
def own_cnd : ClassFile.Cond → Int32 → Int32 → Prop
  | .eq, x, y => x = y
  | .ne, x, y => ¬ x = y
  | .lt, x, y => x < y
  | .ge, x, y => ¬ x < y
  | .gt, x, y => y < x
  | .le, x, y => ¬ y < x
def own_neg : ClassFile.Cond → ClassFile.Cond
  | .eq => .ne
  | .ne => .eq
  | .lt => .ge
  | .ge => .lt
  | .gt => .le
  | .le => .gt
theorem own_holds (cd : ClassFile.Cond) (x y : Int32) : (if_icmp.holds cd x y = true ∧ own_cnd cd x y) ∨ (if_icmp.holds cd x y = false ∧ own_cnd (own_neg cd) x y) := by
  cases cd
  case eq => by_cases q : x = y; · exact Or.inl ⟨(teq q).1, q⟩
             · exact Or.inr ⟨(feq q).1, q⟩
  case ne => by_cases q : x = y; · exact Or.inr ⟨(teq q).2, q⟩
             · exact Or.inl ⟨(feq q).2, q⟩
  case lt => by_cases q : x < y; · exact Or.inl ⟨(tlt q).1, q⟩
             · exact Or.inr ⟨(flt q).1, q⟩
  case ge => by_cases q : x < y; · exact Or.inr ⟨(tlt q).2.1, q⟩
             · exact Or.inl ⟨(flt q).2.1, q⟩
  case gt => by_cases q : y < x; · exact Or.inl ⟨(tlt q).2.2.1, q⟩
             · exact Or.inr ⟨(flt q).2.2.1, q⟩
  case le => by_cases q : y < x; · exact Or.inr ⟨(tlt q).2.2.2, q⟩
             · exact Or.inl ⟨(flt q).2.2.2, q⟩
theorem own_icmp (X : Stand p l e R s m args below meth c T locs cells slots) (hx : p.tables.exec = Jvm.exec) {cd : ClassFile.Cond} {x y : Int32} {o : Int} (pc' : Nat) (hd : decode c.code pc = .ok (.if_icmp cd o, 3)) (ho : 0 ≤ (pc : Int) + o) (hp : ((pc : Int) + o).toNat = pc')
    (g1 : own_cnd cd x y → own_Go p e below Fin T (mkF m pc' Ls rest)) (g2 : own_cnd (own_neg cd) x y → own_Go p e below Fin T (mkF m (pc + 3) Ls rest)) : own_Go p e below Fin T (mkF m pc Ls (.int y :: .int x :: rest)) := by
  rcases own_holds cd x y with ⟨q, q'⟩ | ⟨q, q'⟩
  · exact own_by (fun t kk => XS.icmpYes X.here hx rfl (pc0 := pc) (pc' := pc') rfl hd rfl q ho hp kk) (g1 q')
  · exact own_by (fun t kk => XS.icmpNo X.here hx rfl hd rfl q kk) (g2 q')
theorem own_if (X : Stand p l e R s m args below meth c T locs cells slots) (hx : p.tables.exec = Jvm.exec) {cd : ClassFile.Cond} {x : Int32} {o : Int} (pc' : Nat) (hd : decode c.code pc = .ok (.ifCond cd o, 3)) (ho : 0 ≤ (pc : Int) + o) (hp : ((pc : Int) + o).toNat = pc')
    (g1 : own_cnd cd x 0 → own_Go p e below Fin T (mkF m pc' Ls rest)) (g2 : own_cnd (own_neg cd) x 0 → own_Go p e below Fin T (mkF m (pc + 3) Ls rest)) : own_Go p e below Fin T (mkF m pc Ls (.int x :: rest)) := by
  rcases own_holds cd x 0 with ⟨q, q'⟩ | ⟨q, q'⟩
  · exact own_by (fun t kk => XS.ifYes X.here hx rfl (pc0 := pc) (pc' := pc') rfl hd rfl ((if0 _ _).trans q) ho hp kk) (g1 q')
  · exact own_by (fun t kk => XS.ifNo X.here hx rfl hd rfl ((if0 _ _).trans q) kk) (g2 q')
/-- a static call by the callee's contract -/
theorem own_callS (X : Stand p l e R s m args below meth c T locs cells slots) (hx : p.tables.exec = Jvm.exec) (hZ : Z.Warmed39 s.vm) {own : String} {index : Nat} {y : MethodName} {bytes : ByteArray} {maxL W : Nat} {ret : Option FieldType} {rm : Room} {Qc : Option Value → Heap → List Loc → Prop}
    (hown : s.vm.findClass own = some m.cls) (w1 : (Cond.methodLink own index y).before a0 Z = true) (w2 : (Cond.static y).before a0 Z = true) (w3 : (Cond.initialized y.cls).before a0 Z = true) (w4 : (Cond.code y bytes maxL ret).before a0 Z = true)
    (hy : y.cls ≠ "java/lang/invoke/MethodHandle" ∧ y.cls ≠ "java/lang/invoke/VarHandle") (hml : Ls.size = c.maxLocals) {argsL : List Value} {ps : List FieldType} {rt : Option FieldType} (pd : parseMethodDescriptor y.desc = some ⟨ps, rt⟩) (hlen : argsL.length = ps.length)
    (hM : MetFree l y (head1 [Cond.code y bytes maxL ret] rm) (fun a U => a = argsL.toArray ∧ Z.Warmed39 U.vm ∧ U.heap = h) (fun _ _ _ _ _ => True) (fun _ U o U' => ∃ v L, o = .returned v ∧ Qc v U'.heap L ∧ FrameEnd U o U' L rm.cells rm.slots))
    (hf : rm.frames + 1 ≤ R.frames) (hl : W + (maxL + 11) + rm.locals ≤ R.locals) (hW : (rest.map fun v => v.category).sum ≤ W) (hc : cells + rm.cells ≤ R.cells) (hs : slots + rm.slots ≤ R.slots) (eT : T.heap = h) {st : List Value} (hst : st = argsL.reverse ++ rest) (hd : decode c.code pc = .ok (.invokestatic index, 3))
    (g : ∀ (v : Option Value) (T' : State) (L : List Loc), Stand p l e R s m args below meth c T' (locs ++ L) (cells + rm.cells) (slots + rm.slots) → Qc v T'.heap L → own_Go p e below Fin T' (mkF m (pc + 3) Ls (v.toList ++ rest))) :
    own_Go p e below Fin T (mkF m pc Ls st) := by
  subst hst
  obtain ⟨v, _, ⟨T2, L2, k2, n2⟩, -, X2, ⟨Lc2, hQ2, l2, y2, z2⟩, st2⟩ := Jvm.LawKit.callS X hx (y := y) hown (mvT hZ w1) (mvT hZ w2) (mvT hZ w3) (mvT hZ w4) hy (backOf (W := W) hM hZ w4 w3 hf hl) (g := (mkF m pc Ls (argsL.reverse ++ rest))) rfl hml (argsL := argsL) (rest := rest) (lenOf pd hlen) rfl (by show 2 * 0 + _ ≤ _; omega) hd (fun _ _ => ⟨rfl, eT, hc, hs⟩)
  dsimp only [Pt.U, Pt.locs, Pt.cells, Pt.slots] at X2 l2 y2 z2 st2 hQ2
  subst l2 y2 z2
  exact own_by (fun t kk => st2 _ kk) (g v T2 Lc2 X2 hQ2)
/-- a constructor by its contract -/
theorem own_callC (X : Stand p l e R s m args below meth c T locs cells slots) (hx : p.tables.exec = Jvm.exec) (hZ : Z.Warmed39 s.vm) {own : String} {index : Nat} {y : MethodName} {bytes : ByteArray} {maxL W : Nat} {rm : Room} {Qc : Option Value → Heap → List Loc → Prop} (hy1 : y.name = "<init>")
    (hown : s.vm.findClass own = some m.cls) (w1 : (Cond.methodLink own index y).before a0 Z = true) (w2 : (Cond.instanceMethod y).before a0 Z = true) (w3 : (Cond.initialized y.cls).before a0 Z = true) (w4 : (Cond.code y bytes maxL none).before a0 Z = true)
    (hy : y.cls ≠ "java/lang/invoke/MethodHandle" ∧ y.cls ≠ "java/lang/invoke/VarHandle") (hml : Ls.size = c.maxLocals) {a : Addr} {argsL : List Value} {ps : List FieldType} {rt : Option FieldType} (pd : parseMethodDescriptor y.desc = some ⟨ps, rt⟩) (hlen : argsL.length = ps.length)
    (hM : MetFree l y (head1 [Cond.code y bytes maxL none] rm) (fun b U => b = (.ref a :: argsL).toArray ∧ Z.Warmed39 U.vm ∧ U.heap = h) (fun _ _ _ _ _ => True) (fun _ U o U' => ∃ v L, o = .returned v ∧ Qc v U'.heap L ∧ FrameEnd U o U' L rm.cells rm.slots))
    (hf : rm.frames + 1 ≤ R.frames) (hl : W + (maxL + 11) + rm.locals ≤ R.locals) (hW : (rest.map fun v => v.category).sum ≤ W) (hc : cells + rm.cells ≤ R.cells) (hs : slots + rm.slots ≤ R.slots) (eT : T.heap = h) {st : List Value} (hst : st = argsL.reverse ++ .ref a :: rest) (hd : decode c.code pc = .ok (.invokespecial index, 3))
    (g : ∀ (v : Option Value) (T' : State) (L : List Loc), Stand p l e R s m args below meth c T' (locs ++ L) (cells + rm.cells) (slots + rm.slots) → Qc v T'.heap L → own_Go p e below Fin T' (mkF m (pc + 3) Ls (v.toList ++ rest))) :
    own_Go p e below Fin T (mkF m pc Ls st) := by
  subst hst
  obtain ⟨v, _, ⟨T2, L2, k2, n2⟩, -, X2, ⟨Lc2, hQ2, l2, y2, z2⟩, st2⟩ := X.specialBack hx (y := y) hy1 hown (mvT hZ w1) (mvT hZ w2) (mvT hZ w4) hy (backOf (W := W) hM hZ w4 w3 hf hl) (g := (mkF m pc Ls (argsL.reverse ++ .ref a :: rest))) rfl hml (Steps.refl _) (a := a) (argsL := argsL) (rest := rest) (lenOf pd hlen) rfl (by show 2 * 0 + _ ≤ _; omega) hd (fun _ _ => ⟨rfl, eT, hc, hs⟩)
  dsimp only [Pt.U, Pt.locs, Pt.cells, Pt.slots] at X2 l2 y2 z2 st2 hQ2
  subst l2 y2 z2
  exact own_by (fun t kk => st2.trans kk) (g v T2 Lc2 X2 hQ2)
/-- an instance method of the receiver's own class by its contract -/
theorem own_callV (X : Stand p l e R s m args below meth c T locs cells slots) (hx : p.tables.exec = Jvm.exec) (hZ : Z.Warmed39 s.vm) {own C : String} {index : Nat} {y z : MethodName} {bytes : ByteArray} {maxL W : Nat} {ret : Option FieldType} {rm : Room} {Qc : Option Value → Heap → List Loc → Prop}
    (hown : s.vm.findClass own = some m.cls) (w1 : (Cond.methodLink own index y).before a0 Z = true) (wd : (Cond.declares y).before a0 Z = true) (nf : NotFace s y) (ws : (Cond.selects C y z).before a0 Z = true) (w2 : (Cond.instanceMethod z).before a0 Z = true) (w3 : (Cond.initialized z.cls).before a0 Z = true) (w4 : (Cond.code z bytes maxL ret).before a0 Z = true)
    (hy : y.cls ≠ "java/lang/invoke/MethodHandle" ∧ y.cls ≠ "java/lang/invoke/VarHandle") (hml : Ls.size = c.maxLocals) {a : Addr} {argsL : List Value} {ps : List FieldType} {rt : Option FieldType} (pd : parseMethodDescriptor y.desc = some ⟨ps, rt⟩) (hlen : argsL.length = ps.length)
    (eT : T.heap = h) (E : Exa Z h a C)
    (hM : MetFree l z (head1 [Cond.code z bytes maxL ret] rm) (fun b U => b = (.ref a :: argsL).toArray ∧ Z.Warmed39 U.vm ∧ U.heap = h) (fun _ _ _ _ _ => True) (fun _ U o U' => ∃ v L, o = .returned v ∧ Qc v U'.heap L ∧ FrameEnd U o U' L rm.cells rm.slots))
    (hf : rm.frames + 1 ≤ R.frames) (hl : W + (maxL + 11) + rm.locals ≤ R.locals) (hW : (rest.map fun v => v.category).sum ≤ W) (hc : cells + rm.cells ≤ R.cells) (hs : slots + rm.slots ≤ R.slots) {st : List Value} (hst : st = argsL.reverse ++ .ref a :: rest) (hd : decode c.code pc = .ok (.invokevirtual index, 3))
    (g : ∀ (v : Option Value) (T' : State) (L : List Loc), Stand p l e R s m args below meth c T' (locs ++ L) (cells + rm.cells) (slots + rm.slots) → Qc v T'.heap L → own_Go p e below Fin T' (mkF m (pc + 3) Ls (v.toList ++ rest))) :
    own_Go p e below Fin T (mkF m pc Ls st) := by
  subst hst
  obtain ⟨cq, kq, qa, qb, qc⟩ := isOf hZ eT E
  obtain ⟨v, _, ⟨T2, L2, k2, n2⟩, -, X2, ⟨Lc2, hQ2, l2, y2, z2⟩, st2⟩ := X.virtualBack hx (y := y) (z := z) hown (mvT hZ w1) (mvT hZ wd) nf (mvT hZ ws) (mvT hZ w2) hy (backOf (W := W) hM hZ w4 w3 hf hl) qa qc (g := (mkF m pc Ls (argsL.reverse ++ .ref a :: rest))) rfl hml (Steps.refl _) (argsL := argsL) (rest := rest) (lenOf pd hlen) rfl (by show 2 * 0 + _ ≤ _; omega) hd (fun _ _ => ⟨rfl, eT, hc, hs⟩)
  dsimp only [Pt.U, Pt.locs, Pt.cells, Pt.slots] at X2 l2 y2 z2 st2 hQ2
  subst l2 y2 z2
  exact own_by (fun t kk => st2.trans kk) (g v T2 Lc2 X2 hQ2)
theorem own_getF (X : Stand p l e R s m args below meth c T locs cells slots) (hx : p.tables.exec = Jvm.exec) (hZ : Z.Warmed39 s.vm) {own R0 O nm d : String} {index : Nat} (hown : s.vm.findClass own = some m.cls) (w : (Cond.fieldLink own index R0 nm d).before a0 Z = true) (via : Via Z R0 O nm d) (eT : T.heap = h) {a : Addr} {v : Value} (F : Fld Z h a O nm d v) (hd : decode c.code pc = .ok (.getfield index, 3))
    (g : ∀ T', Stand p l e R s m args below meth c T' locs cells slots → T'.heap = h → own_Go p e below Fin T' (mkF m (pc + 3) Ls (v :: rest))) : own_Go p e below Fin T (mkF m pc Ls (.ref a :: rest)) := by
  obtain ⟨T', X', e', st⟩ := getF X hx hZ hown (host := "") (Or.inl w) via eT F (g := mkF m pc Ls (.ref a :: rest)) rfl rfl hd
  exact own_by (fun t kk => st _ kk) (g T' X' e')
theorem own_getFN (X : Stand p l e R s m args below meth c T locs cells slots) (hx : p.tables.exec = Jvm.exec) (hZ : Z.Warmed39 s.vm) {own R0 O nm d host : String} {index : Nat} (hown : s.vm.findClass own = some m.cls) (w : (Cond.fieldLinkNest own index R0 nm d host).before a0 Z = true) (via : Via Z R0 O nm d) (eT : T.heap = h) {a : Addr} {v : Value} (F : Fld Z h a O nm d v) (hd : decode c.code pc = .ok (.getfield index, 3))
    (g : ∀ T', Stand p l e R s m args below meth c T' locs cells slots → T'.heap = h → own_Go p e below Fin T' (mkF m (pc + 3) Ls (v :: rest))) : own_Go p e below Fin T (mkF m pc Ls (.ref a :: rest)) := by
  obtain ⟨T', X', e', st⟩ := getF X hx hZ hown (Or.inr w) via eT F (g := mkF m pc Ls (.ref a :: rest)) rfl rfl hd
  exact own_by (fun t kk => st _ kk) (g T' X' e')
theorem own_getS (X : Stand p l e R s m args below meth c T locs cells slots) (hx : p.tables.exec = Jvm.exec) (hZ : Z.Warmed39 s.vm) {own R0 O nm d : String} {index : Nat} (hown : s.vm.findClass own = some m.cls) (w : (Cond.fieldLink own index R0 nm d).before a0 Z = true) (via : Via Z R0 O nm d) (eT : T.heap = h) {v : Value} (F : Sta Z h O nm d v) (hd : decode c.code pc = .ok (.getstatic index, 3)) {st0 : List Value}
    (g : ∀ T', Stand p l e R s m args below meth c T' locs cells slots → T'.heap = h → own_Go p e below Fin T' (mkF m (pc + 3) Ls (v :: st0))) : own_Go p e below Fin T (mkF m pc Ls st0) := by
  obtain ⟨T', X', e', st⟩ := getS2 X hx hZ hown (host := "") (Or.inl w) via eT F (g := mkF m pc Ls st0) rfl hd
  exact own_by (fun t kk => st _ kk) (g T' X' e')
theorem own_getSN (X : Stand p l e R s m args below meth c T locs cells slots) (hx : p.tables.exec = Jvm.exec) (hZ : Z.Warmed39 s.vm) {own R0 O nm d host : String} {index : Nat} (hown : s.vm.findClass own = some m.cls) (w : (Cond.fieldLinkNest own index R0 nm d host).before a0 Z = true) (via : Via Z R0 O nm d) (eT : T.heap = h) {v : Value} (F : Sta Z h O nm d v) (hd : decode c.code pc = .ok (.getstatic index, 3)) {st0 : List Value}
    (g : ∀ T', Stand p l e R s m args below meth c T' locs cells slots → T'.heap = h → own_Go p e below Fin T' (mkF m (pc + 3) Ls (v :: st0))) : own_Go p e below Fin T (mkF m pc Ls st0) := by
  obtain ⟨T', X', e', st⟩ := getS2 X hx hZ hown (Or.inr w) via eT F (g := mkF m pc Ls st0) rfl hd
  exact own_by (fun t kk => st _ kk) (g T' X' e')
theorem own_putF (X : Stand p l e R s m args below meth c T locs cells slots) (hx : p.tables.exec = Jvm.exec) (hZ : Z.Warmed39 s.vm) {own R0 O nm d C : String} {index kk : Nat} {ty : FieldType} (hown : s.vm.findClass own = some m.cls) (w : (Cond.fieldLink own index R0 nm d).before a0 Z = true) (via : Via Z R0 O nm d) (eT : T.heap = h) {a : Addr} {v old : Value} (F : Fld Z h a O nm d old) (E : Exa Z h a C)
    (L : (Cond.lays C O nm d).before a0 Z = true ∨ ((Cond.laysFinal C O nm d).before a0 Z = true ∧ own = O ∧ meth.name = "<init>")) (wi : (Cond.instantiable C kk).before a0 Z = true) (hty : parseFieldDescriptor d = some ty) (hn : narrow ty v = v) (hf : fits ty v = true) (hd : decode c.code pc = .ok (.putfield index, 3))
    (g : ∀ T' h', Stand p l e R s m args below meth c T' (locs ++ [⟨a, Jvm.RoadKit.slotOf Z O nm d⟩]) cells slots → T'.heap = h' → Wr h h' a (Jvm.RoadKit.slotOf Z O nm d) v → own_Go p e below Fin T' (mkF m (pc + 3) Ls rest)) : own_Go p e below Fin T (mkF m pc Ls (v :: .ref a :: rest)) := by
  obtain ⟨T', h', X', e', W', st⟩ := putF X hx hZ hown (host := "") (Or.inl w) via eT F E L wi hty hn hf (g := mkF m pc Ls (v :: .ref a :: rest)) rfl rfl hd
  exact own_by (fun t kk => st _ kk) (g T' h' X' e' W')
theorem own_newO (X : Stand p l e R s m args below meth c T locs cells slots) (hx : p.tables.exec = Jvm.exec) (hZ : Z.Warmed39 s.vm) {own C : String} {index nn : Nat} (hown : s.vm.findClass own = some m.cls) (w : (Cond.classLink own index C).before a0 Z = true) (wi : (Cond.instantiable C nn).before a0 Z = true) (wz : (Cond.initialized C).before a0 Z = true) (eT : T.heap = h) (hd : decode c.code pc = .ok (.new index, 3)) (hc : cells + 1 ≤ R.cells) (hl : slots + nn ≤ R.slots) {st0 : List Value}
    (g : ∀ T' h' (b : Addr), Stand p l e R s m args below meth c T' locs (cells + 1) (slots + nn) → T'.heap = h' → b = h.size → Ext h h' → Exa Z h' b C → (∀ {O nm d : String} {ty : FieldType}, Laid Z a0 C O nm d → parseFieldDescriptor d = some ty → Fld Z h' b O nm d (defaultValue ty)) → own_Go p e below Fin T' (mkF m (pc + 3) Ls (.ref b :: st0))) : own_Go p e below Fin T (mkF m pc Ls st0) := by
  obtain ⟨T', h', X', e', E', A', D', -, st⟩ := newO X hx hZ hown w wi wz eT (g := mkF m pc Ls st0) rfl hd hc hl
  exact own_by (fun t kk => st _ kk) (g T' h' _ X' e' rfl E' A' D')
theorem own_initO (X : Stand p l e R s m args below meth c T locs cells slots) (hx : p.tables.exec = Jvm.exec) (hZ : Z.Warmed39 s.vm) {own : String} {idx : Nat} (hown : s.vm.findClass own = some m.cls) (w1 : (Cond.methodLink own idx Lib.objectInit).before a0 Z = true) (w2 : (Cond.instanceMethod Lib.objectInit).before a0 Z = true) (w3 : (Cond.code Lib.objectInit ⟨#[0xb1]⟩ 1 none).before a0 Z = true) (eT : T.heap = h) (hml : Ls.size = c.maxLocals) {a : Addr} (hd : decode c.code pc = .ok (.invokespecial idx, 3)) (hf : 1 ≤ R.frames) {W : Nat} (hW : (rest.map fun v => v.category).sum ≤ W) (hl : W + 12 ≤ R.locals)
    (g : ∀ T', Stand p l e R s m args below meth c T' locs cells slots → T'.heap = h → own_Go p e below Fin T' (mkF m (pc + 3) Ls rest)) : own_Go p e below Fin T (mkF m pc Ls (.ref a :: rest)) := by
  obtain ⟨T', X', e', st⟩ := initO X hx hZ hown w1 w2 w3 eT (g := mkF m pc Ls (.ref a :: rest)) rfl hml rfl hd hf (W := W) (by show 2 * 0 + _ ≤ _; omega) hl
  exact own_by (fun t kk => st _ kk) (g T' X' e')
end OwnKit
section OwnMore
variable {p : Program} {l : Launch} {e : Env} {R : Room} {s : State} {m : MethodId} {args : Array Value} {below : List Frame} {meth : Method} {c : Code} {T T' : State} {locs : List Loc} {cells slots : Nat} {Q : Option Value → Heap → List Loc → Prop} {k n : Nat} {Fin : Outcome → State → Prop} {Z : State} {a0 : Array Value} {h : Heap} {pc : Nat} {Ls : Array Slot} {rest : List Value}
theorem own_acmpEq (X : Stand p l e R s m args below meth c T locs cells slots) (hx : p.tables.exec = Jvm.exec) {a b : Addr} {o : Int} (pc' : Nat) (hd : decode c.code pc = .ok (.if_acmp .eq o, 3)) (ho : 0 ≤ (pc : Int) + o) (hp : ((pc : Int) + o).toNat = pc')
    (g1 : a = b → own_Go p e below Fin T (mkF m pc' Ls rest)) (g2 : ¬ a = b → own_Go p e below Fin T (mkF m (pc + 3) Ls rest)) : own_Go p e below Fin T (mkF m pc Ls (.ref b :: .ref a :: rest)) := by
  by_cases q : a = b
  · exact own_by (fun t kk => XT.acmpYes X.here hx rfl (pc0 := pc) (pc' := pc') rfl hd rfl rfl rfl (decide_eq_true (congrArg Value.ref q)) ho hp kk) (g1 q)
  · exact own_by (fun t kk => XT.acmpNo X.here hx rfl hd rfl rfl rfl (decide_eq_false fun z => q (Value.ref.inj z)) kk) (g2 q)
theorem own_acmpNe (X : Stand p l e R s m args below meth c T locs cells slots) (hx : p.tables.exec = Jvm.exec) {a b : Addr} {o : Int} (pc' : Nat) (hd : decode c.code pc = .ok (.if_acmp .ne o, 3)) (ho : 0 ≤ (pc : Int) + o) (hp : ((pc : Int) + o).toNat = pc')
    (g1 : ¬ a = b → own_Go p e below Fin T (mkF m pc' Ls rest)) (g2 : a = b → own_Go p e below Fin T (mkF m (pc + 3) Ls rest)) : own_Go p e below Fin T (mkF m pc Ls (.ref b :: .ref a :: rest)) := by
  by_cases q : a = b
  · exact own_by (fun t kk => XT.acmpNo X.here hx rfl hd rfl rfl rfl (decide_eq_false fun z => z (congrArg Value.ref q)) kk) (g2 q)
  · exact own_by (fun t kk => XT.acmpYes X.here hx rfl (pc0 := pc) (pc' := pc') rfl hd rfl rfl rfl (decide_eq_true fun z => q (Value.ref.inj z)) ho hp kk) (g1 q)
theorem own_eqI {args : Array Value} {t : Term} {x : Int32} (h : (Cond.eq t (.int x)).value args s none s [] = some true) : t.eval args s none [] s = some (.int x) := by
  have q : (Term.int x).eval args s none [] s = some (.int x) := rfl
  cases ht : t.eval args s none [] s with
  | none => simp [Cond.value, ht] at h
  | some w => cases w <;> simp [Cond.value, ht, q] at h <;> (try subst h) <;> simp_all
theorem own_enumF {args : Array Value} {C f d O nm dd : String} {a : Addr} {x : Int32} (ev : (Term.static C f d).eval args s none [] s = some (.ref a)) (h : (Cond.eq (Term.field (Term.static C f d) O nm dd) (.int x)).value args s none s [] = some true) : Fld s s.heap a O nm dd (.int x) :=
  Fld.start ((fld_at ev).symm.trans (own_eqI h))
theorem own_Sta_keep {Z : State} {h h' : Heap} {C n d : String} {v : Value} {ws : List Addr} (F : Sta Z h C n d v) (K : Keep h h' ws) (q : ∀ x ∈ ws, ∀ cell : Cell, h[x]? = some cell → cell.vm.isStatics = false) : Sta Z h' C n d v := by
  obtain ⟨cf, i, k, f, st, cell, h1, h2, h3, h4, h5, h6, h7⟩ := F
  exact ⟨cf, i, k, f, st, cell, h1, h2, h3, h4, K.2.1 st cell h5 (fun z => by rw [q st z cell h5] at h6; cases h6), h6, h7⟩
end OwnMore
section OwnArr
variable {p : Program} {l : Launch} {e : Env} {R : Room} {s : State} {m : MethodId} {args : Array Value} {below : List Frame} {meth : Method} {c : Code} {T T' : State} {locs : List Loc} {cells slots : Nat} {Q : Option Value → Heap → List Loc → Prop} {k n : Nat} {Fin : Outcome → State → Prop} {Z : State} {a0 : Array Value} {h h' : Heap} {pc : Nat} {Ls : Array Slot} {rest : List Value}
/-- the array at a holds just vs -/
def own_Arr (Z : State) (h : Heap) (a : Addr) (ty : FieldType) (vs : List Value) : Prop := ∃ cl : Cell, Arr Z h a cl ty ∧ cl.slots = vs.toArray ∧ vs.length < 2 ^ 31 ∧ ∀ v ∈ vs, fits ty v = true
section Facts
variable {a b : Addr} {ty : FieldType} {vs : List Value} {sl : Nat} {v : Value} {ws : List Addr}
theorem own_Arr.lt (F : own_Arr Z h a ty vs) : a < h.size := by obtain ⟨c, A, -⟩ := F; exact A.lt
theorem own_Arr.ext (F : own_Arr Z h a ty vs) (E : Ext h h') : own_Arr Z h' a ty vs := by obtain ⟨c, A, r⟩ := F; exact ⟨c, A.ext E, r⟩
theorem own_Arr.other (F : own_Arr Z h b ty vs) (W : Wr h h' a sl v) (q : b ≠ a) : own_Arr Z h' b ty vs := by obtain ⟨c, A, r⟩ := F; exact ⟨c, A.other W q, r⟩
theorem own_Arr.keep (F : own_Arr Z h a ty vs) (K : Keep h h' ws) (q : a ∉ ws) : own_Arr Z h' a ty vs := by obtain ⟨c, A, r⟩ := F; exact ⟨c, ⟨K.2.1 a c A.1 q, A.2⟩, r⟩
theorem own_Arr.set (F : own_Arr Z h a ty vs) (W : Wr h h' a sl v) (hv : fits ty v = true) : own_Arr Z h' a ty (vs.set sl v) := by
  obtain ⟨c, A, r1, r2, r3⟩ := F
  refine ⟨_, A.same W, ?_, by simpa using r2, fun u hu => ?_⟩
  rotate_left
  · rcases List.mem_or_eq_of_mem_set hu with q | q
    · exact r3 u q
    · rw [q]; exact hv
  show c.slots.setIfInBounds sl v = _
  rw [r1]; simp
theorem own_idx {j : Int32} {i : Nat} (hj : j.toInt = (i : Int)) : j.toNatClampNeg = i ∧ ¬ j < 0 := by
  constructor
  · show j.toInt.toNat = i
    rw [hj]; simp
  · rw [Int32.lt_iff_toInt_lt, hj]
    have : (0 : Int32).toInt = 0 := by decide
    omega
theorem own_inb {cl : Cell} {j : Int32} {i : Nat} (hj : j.toInt = (i : Int)) (hs : cl.slots = vs.toArray) (hi : i < vs.length) : ¬ (j < 0 ∨ cl.slots.size ≤ j.toNatClampNeg) := by
  obtain ⟨q1, q2⟩ := own_idx hj
  rw [q1, hs]
  intro q
  rcases q with q | q
  · exact q2 q
  · simp at q; omega
theorem own_lt_of {i : Nat} {v : Value} (hv : vs[i]? = some v) : i < vs.length := (List.getElem?_eq_some_iff.mp hv).1
theorem own_Arr.new {cA : ClassId} {j : Int32} {i : Nat} (A : Arr Z h a (newA cA ty j) ty) (hj : j.toInt = (i : Int)) : own_Arr Z h a ty (List.replicate i (defaultValue ty)) := by
  refine ⟨_, A, ?_, ?_, fun u hu => ?_⟩
  rotate_left 2
  · rw [(List.mem_replicate.mp hu).2]
    cases ty <;> rfl
  · show Array.replicate j.toNatClampNeg (defaultValue ty) = _
    rw [(own_idx hj).1]; simp
  · have := Int32.toInt_lt j
    simp; omega
end Facts
theorem own_newP (X : Stand p l e R s m args below meth c T locs cells slots) (hx : p.tables.exec = Jvm.exec) (hZ : Z.Warmed39 s.vm) {aty : ArrayType} (w : (Cond.arrayClass (newarray.typeOf aty)).before a0 Z = true) (eT : T.heap = h) (hd : decode c.code pc = .ok (.newarray aty, 2)) {j : Int32} (i cap : Nat) (hj : j.toInt = (i : Int)) (hcap : i ≤ cap) (hb : cap * 8 ≤ 536870912) (hc : cells + 1 ≤ R.cells) (hl : slots + cap ≤ R.slots)
    (g : ∀ T' h' (b : Addr), Stand p l e R s m args below meth c T' locs (cells + 1) (slots + cap) → T'.heap = h' → b = h.size → Ext h h' → own_Arr Z h' b (newarray.typeOf aty) (List.replicate i (defaultValue (newarray.typeOf aty))) → own_Go p e below Fin T' (mkF m (pc + 2) Ls (.ref b :: rest))) : own_Go p e below Fin T (mkF m pc Ls (.int j :: rest)) := by
  obtain ⟨q1, q2⟩ := own_idx hj
  obtain ⟨T', h', cA, X', e', E', A', st⟩ := newP X hx hZ w eT (g := mkF m pc Ls (.int j :: rest)) rfl hd rfl q2 (cap := cap) (by rw [q1]; exact hcap) hb hc hl
  exact own_by (fun t kk => st _ kk) (g T' h' _ X' e' rfl E' (own_Arr.new A' hj))
theorem own_iastore (X : Stand p l e R s m args below meth c T locs cells slots) (hx : p.tables.exec = Jvm.exec) (hZ : Z.Warmed39 s.vm) (eT : T.heap = h) {a : Addr} {vs : List Value} (A : own_Arr Z h a .int vs) {j x : Int32} (i : Nat) (hj : j.toInt = (i : Int)) (hi : i < vs.length) (hd : decode c.code pc = .ok (.iastore, 1))
    (g : ∀ T' h', Stand p l e R s m args below meth c T' (locs ++ [⟨a, i⟩]) cells slots → T'.heap = h' → Wr h h' a i (.int x) → own_Arr Z h' a .int (vs.set i (.int x)) → own_Go p e below Fin T' (mkF m (pc + 1) Ls rest)) : own_Go p e below Fin T (mkF m pc Ls (.int x :: .int j :: .ref a :: rest)) := by
  have A' := A
  obtain ⟨cl, A1, r1, r2⟩ := A
  obtain ⟨T', h', X', e', W', st⟩ := stI X hx hZ eT A1 (own_inb hj r1 hi) (g := mkF m pc Ls (.int x :: .int j :: .ref a :: rest)) rfl rfl hd
  rw [(own_idx hj).1] at X' W'
  exact own_by (fun t kk => st _ kk) (g T' h' X' e' W' (A'.set W' rfl))
theorem own_iaload (X : Stand p l e R s m args below meth c T locs cells slots) (hx : p.tables.exec = Jvm.exec) (hZ : Z.Warmed39 s.vm) (eT : T.heap = h) {a : Addr} {vs : List Value} (A : own_Arr Z h a .int vs) {j : Int32} {v : Value} (i : Nat) (hj : j.toInt = (i : Int)) (hv : vs[i]? = some v) (hd : decode c.code pc = .ok (.iaload, 1))
    (g : own_Go p e below Fin T (mkF m (pc + 1) Ls (v :: rest))) : own_Go p e below Fin T (mkF m pc Ls (.int j :: .ref a :: rest)) := by
  obtain ⟨cl, A1, r1, r2⟩ := A
  exact own_by (fun t kk => X.iaload hx (j := j) (v := v) (by rw [eT]; exact A1.1) (State.isArrayOf_alike hZ.alike A1.2.1) A1.2.2 (own_inb hj r1 (own_lt_of hv)) (by rw [(own_idx hj).1, r1]; simpa using hv) (g := mkF m pc Ls (.int j :: .ref a :: rest)) rfl rfl hd _ kk) g
theorem own_caload (X : Stand p l e R s m args below meth c T locs cells slots) (hx : p.tables.exec = Jvm.exec) (hZ : Z.Warmed39 s.vm) (eT : T.heap = h) {a : Addr} {vs : List Value} (A : own_Arr Z h a .char vs) {j : Int32} {v : Value} (i : Nat) (hj : j.toInt = (i : Int)) (hv : vs[i]? = some v) (hd : decode c.code pc = .ok (.caload, 1))
    (g : own_Go p e below Fin T (mkF m (pc + 1) Ls (v :: rest))) : own_Go p e below Fin T (mkF m pc Ls (.int j :: .ref a :: rest)) := by
  obtain ⟨cl, A1, r1, r2⟩ := A
  exact own_by (fun t kk => X.caload hx (j := j) (v := v) (by rw [eT]; exact A1.1) (State.isArrayOf_alike hZ.alike A1.2.1) A1.2.2 (own_inb hj r1 (own_lt_of hv)) (by rw [(own_idx hj).1, r1]; simpa using hv) (g := mkF m pc Ls (.int j :: .ref a :: rest)) rfl rfl hd _ kk) g
theorem own_baload (X : Stand p l e R s m args below meth c T locs cells slots) (hx : p.tables.exec = Jvm.exec) (hZ : Z.Warmed39 s.vm) (eT : T.heap = h) {a : Addr} {vs : List Value} (A : own_Arr Z h a .byte vs) {j : Int32} {v : Value} (i : Nat) (hj : j.toInt = (i : Int)) (hv : vs[i]? = some v) (hd : decode c.code pc = .ok (.baload, 1))
    (g : own_Go p e below Fin T (mkF m (pc + 1) Ls (v :: rest))) : own_Go p e below Fin T (mkF m pc Ls (.int j :: .ref a :: rest)) := by
  obtain ⟨cl, A1, r1, r2⟩ := A
  exact own_by (fun t kk => X.baloadBytes hx (j := j) (v := v) (by rw [eT]; exact A1.1) (State.isArrayOf_alike hZ.alike A1.2.1) A1.2.2 (own_inb hj r1 (own_lt_of hv)) (by rw [(own_idx hj).1, r1]; simpa using hv) (g := mkF m pc Ls (.int j :: .ref a :: rest)) rfl rfl hd _ kk) g
theorem own_laload (X : Stand p l e R s m args below meth c T locs cells slots) (hx : p.tables.exec = Jvm.exec) (hZ : Z.Warmed39 s.vm) (eT : T.heap = h) {a : Addr} {vs : List Value} (A : own_Arr Z h a .long vs) {j : Int32} {v : Value} (i : Nat) (hj : j.toInt = (i : Int)) (hv : vs[i]? = some v) (hd : decode c.code pc = .ok (.laload, 1))
    (g : own_Go p e below Fin T (mkF m (pc + 1) Ls (v :: rest))) : own_Go p e below Fin T (mkF m pc Ls (.int j :: .ref a :: rest)) := by
  obtain ⟨cl, A1, r1, r2⟩ := A
  exact own_by (fun t kk => X.laload hx (j := j) (v := v) (by rw [eT]; exact A1.1) (State.isArrayOf_alike hZ.alike A1.2.1) A1.2.2 (own_inb hj r1 (own_lt_of hv)) (by rw [(own_idx hj).1, r1]; simpa using hv) (g := mkF m pc Ls (.int j :: .ref a :: rest)) rfl rfl hd _ kk) g
theorem own_castore (X : Stand p l e R s m args below meth c T locs cells slots) (hx : p.tables.exec = Jvm.exec) (hZ : Z.Warmed39 s.vm) (eT : T.heap = h) {a : Addr} {vs : List Value} (A : own_Arr Z h a .char vs) {j : Int32} {x : Int32} (i : Nat) (hj : j.toInt = (i : Int)) (hi : i < vs.length) (hd : decode c.code pc = .ok (.castore, 1))
    (g : ∀ T' h', Stand p l e R s m args below meth c T' (locs ++ [⟨a, i⟩]) cells slots → T'.heap = h' → Wr h h' a i (.int (nar .char x)) → own_Arr Z h' a .char (vs.set i (.int (nar .char x))) → own_Go p e below Fin T' (mkF m (pc + 1) Ls rest)) : own_Go p e below Fin T (mkF m pc Ls (.int x :: .int j :: .ref a :: rest)) := by
  have A' := A
  obtain ⟨cl, A1, r1, r2⟩ := A
  obtain ⟨T', h', X', e', W', st⟩ := stC X hx hZ eT A1 (own_inb hj r1 hi) (g := mkF m pc Ls (.int x :: .int j :: .ref a :: rest)) rfl rfl hd
  rw [(own_idx hj).1] at X' W'
  exact own_by (fun t kk => st _ kk) (g T' h' X' e' W' (A'.set W' (fits_nar_char _)))
theorem own_bastore (X : Stand p l e R s m args below meth c T locs cells slots) (hx : p.tables.exec = Jvm.exec) (hZ : Z.Warmed39 s.vm) (eT : T.heap = h) {a : Addr} {vs : List Value} (A : own_Arr Z h a .byte vs) {j : Int32} {x : Int32} (i : Nat) (hj : j.toInt = (i : Int)) (hi : i < vs.length) (hd : decode c.code pc = .ok (.bastore, 1))
    (g : ∀ T' h', Stand p l e R s m args below meth c T' (locs ++ [⟨a, i⟩]) cells slots → T'.heap = h' → Wr h h' a i (.int (nar .byte x)) → own_Arr Z h' a .byte (vs.set i (.int (nar .byte x))) → own_Go p e below Fin T' (mkF m (pc + 1) Ls rest)) : own_Go p e below Fin T (mkF m pc Ls (.int x :: .int j :: .ref a :: rest)) := by
  have A' := A
  obtain ⟨cl, A1, r1, r2⟩ := A
  obtain ⟨T', h', X', e', W', st⟩ := stB X hx hZ eT A1 (own_inb hj r1 hi) (g := mkF m pc Ls (.int x :: .int j :: .ref a :: rest)) rfl rfl hd
  rw [(own_idx hj).1] at X' W'
  exact own_by (fun t kk => st _ kk) (g T' h' X' e' W' (A'.set W' (fits_nar_byte _)))
theorem own_lastore (X : Stand p l e R s m args below meth c T locs cells slots) (hx : p.tables.exec = Jvm.exec) (hZ : Z.Warmed39 s.vm) (eT : T.heap = h) {a : Addr} {vs : List Value} (A : own_Arr Z h a .long vs) {j : Int32} {x : Int64} (i : Nat) (hj : j.toInt = (i : Int)) (hi : i < vs.length) (hd : decode c.code pc = .ok (.lastore, 1))
    (g : ∀ T' h', Stand p l e R s m args below meth c T' (locs ++ [⟨a, i⟩]) cells slots → T'.heap = h' → Wr h h' a i (.long x) → own_Arr Z h' a .long (vs.set i (.long x)) → own_Go p e below Fin T' (mkF m (pc + 1) Ls rest)) : own_Go p e below Fin T (mkF m pc Ls (.long x :: .int j :: .ref a :: rest)) := by
  have A' := A
  obtain ⟨cl, A1, r1, r2⟩ := A
  obtain ⟨T', h', X', e', W', st⟩ := stJ X hx hZ eT A1 (own_inb hj r1 hi) (g := mkF m pc Ls (.long x :: .int j :: .ref a :: rest)) rfl rfl hd
  rw [(own_idx hj).1] at X' W'
  exact own_by (fun t kk => st _ kk) (g T' h' X' e' W' (A'.set W' rfl))
theorem own_alen (X : Stand p l e R s m args below meth c T locs cells slots) (hx : p.tables.exec = Jvm.exec) (hZ : Z.Warmed39 s.vm) (eT : T.heap = h) {a : Addr} {ty : FieldType} {vs : List Value} (A : own_Arr Z h a ty vs) (hd : decode c.code pc = .ok (.arraylength, 1))
    (g : own_Go p e below Fin T (mkF m (pc + 1) Ls (.int vs.length.toInt32 :: rest))) : own_Go p e below Fin T (mkF m pc Ls (.ref a :: rest)) := by
  obtain ⟨cl, A1, r1, r2⟩ := A
  have hl : cl.slots.size = vs.length := by rw [r1]; simp
  rw [← hl] at g
  exact own_by (fun t kk => X.arraylength hx (by rw [eT]; exact A1.1) (State.isArrayOf_alike hZ.alike A1.2.1) (g := mkF m pc Ls (.ref a :: rest)) rfl rfl hd _ kk) g
theorem own_Arr.nostat {a : Addr} {ty : FieldType} {vs : List Value} (F : own_Arr Z h a ty vs) : ∀ cell : Cell, h[a]? = some cell → cell.vm.isStatics = false := by obtain ⟨c, A, -⟩ := F; exact A.nostat
theorem own_exa_arr {a b : Addr} {C : String} {kk : Nat} {ty : FieldType} {vs : List Value} (F : Exa Z h a C) (wi : (Cond.instantiable C kk).before a0 Z = true) (G : own_Arr Z h b ty vs) : a ≠ b := by
  obtain ⟨c, A, -⟩ := G
  exact ne_arr F wi A
theorem own_Arr.len {a : Addr} {ty : FieldType} {vs : List Value} (F : own_Arr Z h a ty vs) : vs.length < 2 ^ 31 := by obtain ⟨c, -, -, q, -⟩ := F; exact q
theorem own_getD {vs : List Value} {i : Nat} (hi : i < vs.length) (d : Value) : vs.getD i d = vs[i] := by simp [List.getD, hi]
theorem own_Arr.arv {a : Addr} {ty : FieldType} {vs : List Value} (F : own_Arr Z h a ty vs) (dv : Value) : ∃ kk, Arv Z h a kk ty vs.length.toInt32 vs dv := by
  obtain ⟨cl, A, r1, r2, r3⟩ := F
  have e1 : vs.length.toInt32.toInt = vs.length := len_toInt r2
  have e2 := own_idx e1
  have hs : cl.slots.size = vs.length := by rw [r1]; simp
  refine ⟨cl.cls, cl, A, rfl, by rw [hs, e2.1], e2.2, fun i hi => ?_, fun i hi => ?_⟩
  · rw [hs] at hi
    rw [own_getD hi, r1]; simp [hi]
  · rw [hs] at hi
    rw [own_getD hi]; exact r3 _ (List.getElem_mem hi)
theorem own_Arr.of_arv {a : Addr} {kk : ClassId} {ty : FieldType} {z : Int32} {vs : List Value} {dv : Value} (F : Arv Z h a kk ty z vs dv) (hl : z.toNatClampNeg = vs.length) : own_Arr Z h a ty vs := by
  obtain ⟨cl, A, -, q1, q2, H, G⟩ := F
  have hs : cl.slots.size = vs.length := q1.trans hl
  refine ⟨cl, A, ?_, ?_, fun v hv => ?_⟩
  · apply Array.ext'
    apply List.ext_getElem?
    intro i
    by_cases hi : i < vs.length
    · have := H i (by rw [hs]; exact hi)
      rw [own_getD hi] at this
      have q2 : (vs.toArray.toList)[i]? = some vs[i] := by simp [hi]
      rw [q2, Array.getElem?_toList]
      exact this
    · have h1 : cl.slots.toList[i]? = none := by rw [List.getElem?_eq_none_iff]; simp; omega
      have h2 : (vs.toArray.toList)[i]? = none := by rw [List.getElem?_eq_none_iff]; simp; omega
      rw [h1, h2]
  · rw [← hl]
    have := z.toInt_lt
    show z.toInt.toNat < 2 ^ 31
    omega
  · obtain ⟨i, hi, rfl⟩ := List.getElem_of_mem hv
    have := G i (by rw [hs]; exact hi)
    rwa [own_getD hi] at this
end OwnArr
theorem d4_0 : decode jdk_29_method_69_code 0 = .ok (.iload_n 0, 1) := by decide +kernel
theorem d4_1 : decode jdk_29_method_69_code 1 = .ok (.iload_n 1, 1) := by decide +kernel
theorem d4_2 : decode jdk_29_method_69_code 2 = .ok (.if_icmp .gt 7, 3) := by decide +kernel
theorem d4_9 : decode jdk_29_method_69_code 9 = .ok (.iload_n 1, 1) := by decide +kernel
theorem d4_10 : decode jdk_29_method_69_code 10 = .ok (.ireturn, 1) := by decide +kernel
theorem d4_5 : decode jdk_29_method_69_code 5 = .ok (.iload_n 0, 1) := by decide +kernel
theorem d4_6 : decode jdk_29_method_69_code 6 = .ok (.goto 4, 3) := by decide +kernel
theorem pn_1 : plainName "com/example/wayfold/wayfold/engine/DayTiming$Timeline" = true := by first | (simp [plainName, overriddenIn]; done) | decide +kernel
theorem d1_0 : decode prog_4_method_1_code 0 = .ok (.aload_n 0, 1) := by decide +kernel
theorem d1_1 : decode prog_4_method_1_code 1 = .ok (.invokespecial 1, 3) := by decide +kernel
theorem d1_4 : decode prog_4_method_1_code 4 = .ok (.aload_n 0, 1) := by decide +kernel
theorem d1_5 : decode prog_4_method_1_code 5 = .ok (.iload_n 1, 1) := by decide +kernel
theorem d1_6 : decode prog_4_method_1_code 6 = .ok (.newarray .int, 2) := by decide +kernel
theorem d1_8 : decode prog_4_method_1_code 8 = .ok (.putfield 7, 3) := by decide +kernel
theorem d1_11 : decode prog_4_method_1_code 11 = .ok (.aload_n 0, 1) := by decide +kernel
theorem d1_12 : decode prog_4_method_1_code 12 = .ok (.iload_n 1, 1) := by decide +kernel
theorem d1_13 : decode prog_4_method_1_code 13 = .ok (.iconst 1, 1) := by decide +kernel
theorem d1_14 : decode prog_4_method_1_code 14 = .ok (.iadd, 1) := by decide +kernel
theorem d1_15 : decode prog_4_method_1_code 15 = .ok (.newarray .double, 2) := by decide +kernel
theorem d1_17 : decode prog_4_method_1_code 17 = .ok (.putfield 13, 3) := by decide +kernel
theorem d1_20 : decode prog_4_method_1_code 20 = .ok (.aload_n 0, 1) := by decide +kernel
theorem d1_21 : decode prog_4_method_1_code 21 = .ok (.iload_n 1, 1) := by decide +kernel
theorem d1_22 : decode prog_4_method_1_code 22 = .ok (.iconst 1, 1) := by decide +kernel
theorem d1_23 : decode prog_4_method_1_code 23 = .ok (.iadd, 1) := by decide +kernel
theorem d1_24 : decode prog_4_method_1_code 24 = .ok (.newarray .double, 2) := by decide +kernel
theorem d1_26 : decode prog_4_method_1_code 26 = .ok (.putfield 17, 3) := by decide +kernel
theorem d1_29 : decode prog_4_method_1_code 29 = .ok (.aload_n 0, 1) := by decide +kernel
theorem d1_30 : decode prog_4_method_1_code 30 = .ok (.iload_n 1, 1) := by decide +kernel
theorem d1_31 : decode prog_4_method_1_code 31 = .ok (.iconst 1, 1) := by decide +kernel
theorem d1_32 : decode prog_4_method_1_code 32 = .ok (.iadd, 1) := by decide +kernel
theorem d1_33 : decode prog_4_method_1_code 33 = .ok (.newarray .double, 2) := by decide +kernel
theorem d1_35 : decode prog_4_method_1_code 35 = .ok (.putfield 20, 3) := by decide +kernel
theorem d1_38 : decode prog_4_method_1_code 38 = .ok (.aload_n 0, 1) := by decide +kernel
theorem d1_39 : decode prog_4_method_1_code 39 = .ok (.iload_n 1, 1) := by decide +kernel
theorem d1_40 : decode prog_4_method_1_code 40 = .ok (.iconst 1, 1) := by decide +kernel
theorem d1_41 : decode prog_4_method_1_code 41 = .ok (.iadd, 1) := by decide +kernel
theorem d1_42 : decode prog_4_method_1_code 42 = .ok (.newarray .double, 2) := by decide +kernel
theorem d1_44 : decode prog_4_method_1_code 44 = .ok (.putfield 23, 3) := by decide +kernel
theorem d1_47 : decode prog_4_method_1_code 47 = .ok (.aload_n 0, 1) := by decide +kernel
theorem d1_48 : decode prog_4_method_1_code 48 = .ok (.iload_n 1, 1) := by decide +kernel
theorem d1_49 : decode prog_4_method_1_code 49 = .ok (.iconst 1, 1) := by decide +kernel
theorem d1_50 : decode prog_4_method_1_code 50 = .ok (.iadd, 1) := by decide +kernel
theorem d1_51 : decode prog_4_method_1_code 51 = .ok (.newarray .double, 2) := by decide +kernel
theorem d1_53 : decode prog_4_method_1_code 53 = .ok (.putfield 26, 3) := by decide +kernel
theorem d1_56 : decode prog_4_method_1_code 56 = .ok (.aload_n 0, 1) := by decide +kernel
theorem d1_57 : decode prog_4_method_1_code 57 = .ok (.iload_n 1, 1) := by decide +kernel
theorem d1_58 : decode prog_4_method_1_code 58 = .ok (.iconst 1, 1) := by decide +kernel
theorem d1_59 : decode prog_4_method_1_code 59 = .ok (.iadd, 1) := by decide +kernel
theorem d1_60 : decode prog_4_method_1_code 60 = .ok (.newarray .double, 2) := by decide +kernel
theorem d1_62 : decode prog_4_method_1_code 62 = .ok (.putfield 29, 3) := by decide +kernel
theorem d1_65 : decode prog_4_method_1_code 65 = .ok (.aload_n 0, 1) := by decide +kernel
theorem d1_66 : decode prog_4_method_1_code 66 = .ok (.iload_n 1, 1) := by decide +kernel
theorem d1_67 : decode prog_4_method_1_code 67 = .ok (.iconst 1, 1) := by decide +kernel
theorem d1_68 : decode prog_4_method_1_code 68 = .ok (.iadd, 1) := by decide +kernel
theorem d1_69 : decode prog_4_method_1_code 69 = .ok (.newarray .double, 2) := by decide +kernel
theorem d1_71 : decode prog_4_method_1_code 71 = .ok (.putfield 32, 3) := by decide +kernel
theorem d1_74 : decode prog_4_method_1_code 74 = .ok (.aload_n 0, 1) := by decide +kernel
theorem d1_75 : decode prog_4_method_1_code 75 = .ok (.iload_n 1, 1) := by decide +kernel
theorem d1_76 : decode prog_4_method_1_code 76 = .ok (.iconst 1, 1) := by decide +kernel
theorem d1_77 : decode prog_4_method_1_code 77 = .ok (.iadd, 1) := by decide +kernel
theorem d1_78 : decode prog_4_method_1_code 78 = .ok (.newarray .double, 2) := by decide +kernel
theorem d1_80 : decode prog_4_method_1_code 80 = .ok (.putfield 35, 3) := by decide +kernel
theorem d1_83 : decode prog_4_method_1_code 83 = .ok (.return_, 1) := by decide +kernel
theorem d3_0 : decode prog_4_method_3_code 0 = .ok (.iload_n 2, 1) := by decide +kernel
theorem d3_1 : decode prog_4_method_3_code 1 = .ok (.aload_n 0, 1) := by decide +kernel
theorem d3_2 : decode prog_4_method_3_code 2 = .ok (.getfield 38, 3) := by decide +kernel
theorem d3_5 : decode prog_4_method_3_code 5 = .ok (.invokestatic 48, 3) := by decide +kernel
theorem pd_3 : parseMethodDescriptor "(II)I" = some ⟨[.int, .int], some .int⟩ := by decide +kernel
theorem d3_8 : decode prog_4_method_3_code 8 = .ok (.istore_n 3, 1) := by decide +kernel
theorem d3_9 : decode prog_4_method_3_code 9 = .ok (.iconst 0, 1) := by decide +kernel
theorem d3_10 : decode prog_4_method_3_code 10 = .ok (.istore 4, 2) := by decide +kernel
theorem d3_12 : decode prog_4_method_3_code 12 = .ok (.iload 4, 2) := by decide +kernel
theorem d3_14 : decode prog_4_method_3_code 14 = .ok (.iload_n 3, 1) := by decide +kernel
theorem d3_15 : decode prog_4_method_3_code 15 = .ok (.if_icmp .ge 23, 3) := by decide +kernel
theorem d3_38 : decode prog_4_method_3_code 38 = .ok (.iload 4, 2) := by decide +kernel
theorem d3_40 : decode prog_4_method_3_code 40 = .ok (.ireturn, 1) := by decide +kernel
theorem d3_18 : decode prog_4_method_3_code 18 = .ok (.aload_n 1, 1) := by decide +kernel
theorem d3_19 : decode prog_4_method_3_code 19 = .ok (.iload 4, 2) := by decide +kernel
theorem d3_21 : decode prog_4_method_3_code 21 = .ok (.iaload, 1) := by decide +kernel
theorem d3_22 : decode prog_4_method_3_code 22 = .ok (.aload_n 0, 1) := by decide +kernel
theorem d3_23 : decode prog_4_method_3_code 23 = .ok (.getfield 7, 3) := by decide +kernel
theorem d3_26 : decode prog_4_method_3_code 26 = .ok (.iload 4, 2) := by decide +kernel
theorem d3_28 : decode prog_4_method_3_code 28 = .ok (.iaload, 1) := by decide +kernel
theorem d3_29 : decode prog_4_method_3_code 29 = .ok (.if_icmp .ne 9, 3) := by decide +kernel
theorem d3_32 : decode prog_4_method_3_code 32 = .ok (.iinc 4 1, 3) := by decide +kernel
theorem d3_35 : decode prog_4_method_3_code 35 = .ok (.goto (-23), 3) := by decide +kernel
theorem pn_0 : plainName "com/example/wayfold/wayfold/engine/TimelineSharedPinLaw" = true := by first | (simp [plainName, overriddenIn]; done) | decide +kernel
theorem pd_0 : parseMethodDescriptor "(I)V" = some ⟨[.int], none⟩ := by decide +kernel
theorem pd_2 : parseMethodDescriptor "([II)I" = some ⟨[(.array .int), .int], some .int⟩ := by decide +kernel
def own_min (x y : Int32) : Int32 := if y < x then y else x
def own_sh (m r0 r1 r2 r3 n0 n1 n2 n3 : Int32) : Int32 := if ¬ 0 < m then 0 else if ¬ r0 = n0 then 0 else if ¬ 1 < m then 1 else if ¬ r1 = n1 then 1 else if ¬ 2 < m then 2 else if ¬ r2 = n2 then 2 else if ¬ 3 < m then 3 else if ¬ r3 = n3 then 3 else 4
theorem own_addz (x d : Int32) : (x + d = x) ↔ d = 0 := by
  constructor
  · intro q
    have h : x + d - x = x - x := by rw [q]
    rw [Int32.add_comm, Int32.add_sub_cancel, Int32.sub_self] at h
    exact h
  · rintro rfl; simp
theorem own_m5 (x : Int32) : 0 ≤ ((x &&& 7) % 5).toInt ∧ ((x &&& 7) % 5).toInt < 5 := by
  have e1 : (x &&& 7).toInt = x.toInt % 2 ^ 3 := Jvm.Kit.i32_mask x 7 (k := 3) (by decide) (by decide)
  have k5 : (5 : Int32).toInt = 5 := by decide
  have e2 := Jvm.Kit.i32_rem_nonneg (x := x &&& 7) (y := 5) (by omega)
  rw [e2, k5]; omega
theorem own_le4 {x y : Int32} (h : x.toInt < 5) (h' : y.toInt < 5) : ¬ 4 < own_min x y := by
  have k4 : (4 : Int32).toInt = 4 := by decide
  unfold own_min
  split <;> rw [Int32.lt_iff_toInt_lt] <;> omega
def Q1 (Z : State) (a1 : Addr) (h0 : Heap) (n0 : Nat) (v : Option Value) (h : Heap) (L : List Loc) : Prop := v = none ∧ Fr n0 L ∧ Keep h0 h [a1] ∧ Exa Z h a1 "com/example/wayfold/wayfold/engine/DayTiming$Timeline" ∧ Fld Z h a1 "com/example/wayfold/wayfold/engine/DayTiming$Timeline" "length" "I" (.int (0 : Int32)) ∧ ∃ b : Addr, h0.size ≤ b ∧ Fld Z h a1 "com/example/wayfold/wayfold/engine/DayTiming$Timeline" "nodes" "[I" (.ref b) ∧ own_Arr Z h b .int [.int (0 : Int32), .int (0 : Int32), .int (0 : Int32), .int (0 : Int32)]
def Q3 (c len r0 r1 r2 r3 m0 m1 m2 m3 : Int32) (h0 : Heap) (n0 : Nat) (v : Option Value) (h : Heap) (L : List Loc) : Prop := v = some (.int (own_sh (own_min c len) r0 r1 r2 r3 m0 m1 m2 m3)) ∧ Fr n0 L ∧ h = h0
def Q4 (x y : Int32) (h0 : Heap) (n0 : Nat) (v : Option Value) (h : Heap) (L : List Loc) : Prop := v = some (.int (own_min x y)) ∧ Fr n0 L ∧ h = h0
def Q0 (n0 : Nat) (v : Option Value) (h : Heap) (L : List Loc) : Prop := v = some (.int (1 : Int32)) ∧ Fr n0 L
theorem own_lt1 (x : Int32) : 0 < x ↔ ¬ x < 1 := by
  have k0 : (0 : Int32).toInt = 0 := by decide
  have k1 : (1 : Int32).toInt = 1 := by decide
  rw [Int32.lt_iff_toInt_lt, Int32.lt_iff_toInt_lt]; omega
theorem own_lt2 (x : Int32) : 1 < x ↔ ¬ x < 2 := by
  have k0 : (1 : Int32).toInt = 1 := by decide
  have k1 : (2 : Int32).toInt = 2 := by decide
  rw [Int32.lt_iff_toInt_lt, Int32.lt_iff_toInt_lt]; omega
theorem own_lt3 (x : Int32) : 2 < x ↔ ¬ x < 3 := by
  have k0 : (2 : Int32).toInt = 2 := by decide
  have k1 : (3 : Int32).toInt = 3 := by decide
  rw [Int32.lt_iff_toInt_lt, Int32.lt_iff_toInt_lt]; omega
theorem own_lt4 (x : Int32) : 3 < x ↔ ¬ x < 4 := by
  have k0 : (3 : Int32).toInt = 3 := by decide
  have k1 : (4 : Int32).toInt = 4 := by decide
  rw [Int32.lt_iff_toInt_lt, Int32.lt_iff_toInt_lt]; omega
theorem ef_4 (m : MethodId) (x1 : Int32) (y1 : Int32) : entryFrame m #[(.int x1), (.int y1)] 2 = mkF m 0 #[.val (.int x1), .val (.int y1)] [] := by first | (simp [entryFrame, mkF, argsToLocals, Value.category]; done) | rfl
set_option maxRecDepth 65536 in
set_option maxHeartbeats 40000000 in
theorem rm4 (l : Launch) (Z : State) (a0 : Array Value) (hw : ∀ d ∈ tables_1, d.before a0 Z = true) (ws : List Jvm.Cond) (x1 : Int32) (y1 : Int32) (h0 : Heap) (n0 : Nat) (Z0 : n0 ≤ h0.size) :
    MetFree l (⟨"java/lang/Math", "min", "(II)I"⟩ : MethodName) (head1 (Jvm.Cond.code (⟨"java/lang/Math", "min", "(II)I"⟩ : MethodName) jdk_29_method_69_code 2 (some .int) :: ws) ({ frames := 0, cells := 0, slots := 0, locals := 0 } : Room)) (fun a U => a = #[(.int x1), (.int y1)] ∧ Z.Warmed39 U.vm ∧ U.heap = h0) (fun _ _ _ _ _ => True) (fun _ U o U' => ∃ v L, o = .returned v ∧ Q4 x1 y1 h0 n0 v U'.heap L ∧ FrameEnd U o U' L ({ frames := 0, cells := 0, slots := 0, locals := 0 } : Room).cells ({ frames := 0, cells := 0, slots := 0, locals := 0 } : Room).slots) := by
  refine MetFree.of_bodySF (Jvm.Free.JP.mathPlain rfl (by decide +kernel)) hisR ?_
  intro p e s m args below meth c s₁ Bd hml0 hP hK
  obtain ⟨rfl, hZ, hh⟩ := hP
  have hx := Bd.exec
  have hby := Bd.bytes
  have hml : c.maxLocals = 2 := hml0
  have hown : s.vm.findClass "java/lang/Math" = some m.cls := findClass_of_methodNamed Bd.named
  have hnm := (name_of_methodNamed Bd.named Bd.method).1
  have hlk : meth.locks = false := BodyLoose.notSynchronized Bd
  have X0 : Stand p l e ({ frames := 0, cells := 0, slots := 0, locals := 0 } : Room) s m #[(.int x1), (.int y1)] below meth c s₁ [] 0 0 := Stand.of_body Bd
  have e0 : s₁.heap = h0 := by rw [← hh, Bd.state]; rfl
  have N0 := Fr.nil n0
  refine own_start (Q := Q4 x1 y1 h0 n0) (ef_4 m x1 y1) ?_
  show own_Go p e below _ s₁ (mkF m 0 #[.val (.int x1), .val (.int y1)] [])
  refine own_by (fun t_ k_ => XS.iloadN X0.here hx rfl (hb hby d4_0) rfl k_) ?_
  show own_Go p e below _ s₁ (mkF m 1 #[.val (.int x1), .val (.int y1)] [(.int x1)])
  refine own_by (fun t_ k_ => XS.iloadN X0.here hx rfl (hb hby d4_1) rfl k_) ?_
  show own_Go p e below _ s₁ (mkF m 2 #[.val (.int x1), .val (.int y1)] [(.int y1), (.int x1)])
  refine own_icmp X0 hx 9 (hb hby d4_2) (by decide) (by decide) (fun (hc2 : y1 < x1) => ?_) (fun (hc2 : ¬ y1 < x1) => ?_)
  · show own_Go p e below _ s₁ (mkF m 9 #[.val (.int x1), .val (.int y1)] [])
    refine own_by (fun t_ k_ => XS.iloadN X0.here hx rfl (hb hby d4_9) rfl k_) ?_
    show own_Go p e below _ s₁ (mkF m 10 #[.val (.int x1), .val (.int y1)] [(.int y1)])
    refine own_retI X0 hx hlk Bd.returns (hb hby d4_10) e0 (by decide) (by decide) ?_
    exact ⟨by simp [own_min, hc2], N0, rfl⟩
  · show own_Go p e below _ s₁ (mkF m 5 #[.val (.int x1), .val (.int y1)] [])
    refine own_by (fun t_ k_ => XS.iloadN X0.here hx rfl (hb hby d4_5) rfl k_) ?_
    show own_Go p e below _ s₁ (mkF m 6 #[.val (.int x1), .val (.int y1)] [(.int x1)])
    refine own_by (fun t_ k_ => XS.goto X0.here hx rfl (pc0 := 6) (pc' := 10) rfl (hb hby d4_6) (by decide) (by decide) k_) ?_
    show own_Go p e below _ s₁ (mkF m 10 #[.val (.int x1), .val (.int y1)] [(.int x1)])
    refine own_retI X0 hx hlk Bd.returns (hb hby d4_10) e0 (by decide) (by decide) ?_
    exact ⟨by simp [own_min, hc2], N0, rfl⟩
theorem ef_1 (m : MethodId) (a1 : Addr) : entryFrame m #[(.ref a1), (.int (4 : Int32))] 2 = mkF m 0 #[.val (.ref a1), .val (.int (4 : Int32))] [] := by first | (simp [entryFrame, mkF, argsToLocals, Value.category]; done) | rfl
set_option maxRecDepth 65536 in
set_option maxHeartbeats 40000000 in
theorem rm1 (l : Launch) (Z : State) (a0 : Array Value) (hw : ∀ d ∈ tables_1, d.before a0 Z = true) (ws : List Jvm.Cond) (a1 : Addr) (h0 : Heap) (n0 : Nat) (Z0 : n0 ≤ h0.size) (E_a1 : Exa Z h0 a1 "com/example/wayfold/wayfold/engine/DayTiming$Timeline") (F_length : Fld Z h0 a1 "com/example/wayfold/wayfold/engine/DayTiming$Timeline" "length" "I" (.int (0 : Int32))) (F_nodes : Fld Z h0 a1 "com/example/wayfold/wayfold/engine/DayTiming$Timeline" "nodes" "[I" .null) (F_leave : Fld Z h0 a1 "com/example/wayfold/wayfold/engine/DayTiming$Timeline" "leave" "[D" .null) (F_interest : Fld Z h0 a1 "com/example/wayfold/wayfold/engine/DayTiming$Timeline" "interest" "[D" .null) (F_travel : Fld Z h0 a1 "com/example/wayfold/wayfold/engine/DayTiming$Timeline" "travel" "[D" .null) (F_visit : Fld Z h0 a1 "com/example/wayfold/wayfold/engine/DayTiming$Timeline" "visit" "[D" .null) (F_waiting : Fld Z h0 a1 "com/example/wayfold/wayfold/engine/DayTiming$Timeline" "waiting" "[D" .null) (F_load : Fld Z h0 a1 "com/example/wayfold/wayfold/engine/DayTiming$Timeline" "load" "[D" .null) (F_latest : Fld Z h0 a1 "com/example/wayfold/wayfold/engine/DayTiming$Timeline" "latest" "[D" .null) (F_best : Fld Z h0 a1 "com/example/wayfold/wayfold/engine/DayTiming$Timeline" "best" "[D" .null) (g_a1 : n0 ≤ a1) :
    MetFree l (⟨"com/example/wayfold/wayfold/engine/DayTiming$Timeline", "<init>", "(I)V"⟩ : MethodName) (head1 (Jvm.Cond.code (⟨"com/example/wayfold/wayfold/engine/DayTiming$Timeline", "<init>", "(I)V"⟩ : MethodName) prog_4_method_1_code 2 none :: ws) ({ frames := 1, cells := 9, slots := 44, locals := 13 } : Room)) (fun a U => a = #[(.ref a1), (.int (4 : Int32))] ∧ Z.Warmed39 U.vm ∧ U.heap = h0) (fun _ _ _ _ _ => True) (fun _ U o U' => ∃ v L, o = .returned v ∧ Q1 Z a1 h0 n0 v U'.heap L ∧ FrameEnd U o U' L ({ frames := 1, cells := 9, slots := 44, locals := 13 } : Room).cells ({ frames := 1, cells := 9, slots := 44, locals := 13 } : Room).slots) := by
  refine MetFree.of_bodySF (plainFor_of_name pn_1) hisR ?_
  intro p e s m args below meth c s₁ Bd hml0 hP hK
  obtain ⟨rfl, hZ, hh⟩ := hP
  have hx := Bd.exec
  have hby := Bd.bytes
  have hml : c.maxLocals = 2 := hml0
  have hown : s.vm.findClass "com/example/wayfold/wayfold/engine/DayTiming$Timeline" = some m.cls := findClass_of_methodNamed Bd.named
  have hnm := (name_of_methodNamed Bd.named Bd.method).1
  have hlk : meth.locks = false := BodyLoose.notSynchronized Bd
  have X0 : Stand p l e ({ frames := 1, cells := 9, slots := 44, locals := 13 } : Room) s m #[(.ref a1), (.int (4 : Int32))] below meth c s₁ [] 0 0 := Stand.of_body Bd
  have e0 : s₁.heap = h0 := by rw [← hh, Bd.state]; rfl
  have N0 := Fr.nil n0
  refine own_start (Q := Q1 Z a1 h0 n0) (ef_1 m a1) ?_
  have K0 := Keep.refl h0 [a1]
  show own_Go p e below _ s₁ (mkF m 0 #[.val (.ref a1), .val (.int (4 : Int32))] [])
  refine own_by (fun t_ k_ => XS.aloadN X0.here hx rfl (hb hby d1_0) rfl rfl k_) ?_
  show own_Go p e below _ s₁ (mkF m 1 #[.val (.ref a1), .val (.int (4 : Int32))] [(.ref a1)])
  refine own_initO X0 hx hZ hown (hw _ (List.mem_of_getElem? (i := 6) rfl)) (hw _ (List.mem_of_getElem? (i := 7) rfl)) (hw _ (List.mem_of_getElem? (i := 8) rfl)) e0 (by rw [hml]; rfl) (hb hby d1_1) (by decide) (W := 0) (Nat.le_of_eq rfl) (by decide) ?_
  intro T1 X1 e1
  show own_Go p e below _ T1 (mkF m 4 #[.val (.ref a1), .val (.int (4 : Int32))] [])
  refine own_by (fun t_ k_ => XS.aloadN X1.here hx rfl (hb hby d1_4) rfl rfl k_) ?_
  show own_Go p e below _ T1 (mkF m 5 #[.val (.ref a1), .val (.int (4 : Int32))] [(.ref a1)])
  refine own_by (fun t_ k_ => XS.iloadN X1.here hx rfl (hb hby d1_5) rfl k_) ?_
  show own_Go p e below _ T1 (mkF m 6 #[.val (.ref a1), .val (.int (4 : Int32))] [(.int (4 : Int32)), (.ref a1)])
  refine own_newP X1 hx hZ (hw _ (List.mem_of_getElem? (i := 9) rfl)) e1 (hb hby d1_6) 4 4 (by decide) (by decide) (by decide) (by decide) (by decide) ?_
  intro T2 h2 b2 X2 e2 g2 E2 A2
  have lt_a1_b2 : a1 < b2 := Nat.lt_of_lt_of_le E_a1.lt (Nat.le_of_eq g2.symm)
  have g_b2 : n0 ≤ b2 := Nat.le_trans Z0 (Nat.le_of_eq g2.symm)
  have sz2 : n0 ≤ h2.size := Nat.le_trans Z0 E2.1
  have szk_b2 : h0.size ≤ b2 := Nat.le_trans K0.1 (Nat.le_of_eq g2.symm)
  have K2 : Keep h0 h2 [a1] := K0.ext E2
  have V2_0 : own_Arr Z h2 b2 .int [(.int (0 : Int32)), (.int (0 : Int32)), (.int (0 : Int32)), (.int (0 : Int32))] := A2
  show own_Go p e below _ T2 (mkF m 8 #[.val (.ref a1), .val (.int (4 : Int32))] [(.ref b2), (.ref a1)])
  have F_nodes_4 : Fld Z h2 a1 "com/example/wayfold/wayfold/engine/DayTiming$Timeline" "nodes" "[I" .null := (Fld.ext E2 F_nodes)
  have E_a1_5 : Exa Z h2 a1 "com/example/wayfold/wayfold/engine/DayTiming$Timeline" := (Exa.ext E2 E_a1)
  refine own_putF X2 hx hZ hown (hw _ (List.mem_of_getElem? (i := 10) rfl)) Via.refl e2 F_nodes_4 E_a1_5 (Or.inr ⟨(hw _ (List.mem_of_getElem? (i := 11) rfl)), rfl, hnm⟩) (hw _ (List.mem_of_getElem? (i := 1) rfl)) (ty := (.array .int)) (by decide) rfl rfl (hb hby d1_8) ?_
  intro T3 h3 X3 e3 W3
  have F3 := Fld.same W3 F_nodes_4
  have N3 := Fr.snoc X3 N0 g_a1
  have sz3 : n0 ≤ h3.size := Nat.le_trans sz2 (Keep.of_wr W3).1
  have K3 : Keep h0 h3 [a1] := K2.wr W3 (Or.inl (List.mem_cons_self ..))
  show own_Go p e below _ T3 (mkF m 11 #[.val (.ref a1), .val (.int (4 : Int32))] [])
  refine own_by (fun t_ k_ => XS.aloadN X3.here hx rfl (hb hby d1_11) rfl rfl k_) ?_
  show own_Go p e below _ T3 (mkF m 12 #[.val (.ref a1), .val (.int (4 : Int32))] [(.ref a1)])
  refine own_by (fun t_ k_ => XS.iloadN X3.here hx rfl (hb hby d1_12) rfl k_) ?_
  show own_Go p e below _ T3 (mkF m 13 #[.val (.ref a1), .val (.int (4 : Int32))] [(.int (4 : Int32)), (.ref a1)])
  refine own_by (fun t_ k_ => XS.iconst X3.here hx rfl (hb hby d1_13) k_) ?_
  show own_Go p e below _ T3 (mkF m 14 #[.val (.ref a1), .val (.int (4 : Int32))] [(.int (1 : Int32)), (.int (4 : Int32)), (.ref a1)])
  refine own_by (fun t_ k_ => XS.iadd X3.here hx rfl (hb hby d1_14) rfl k_) ?_
  show own_Go p e below _ T3 (mkF m 15 #[.val (.ref a1), .val (.int (4 : Int32))] [(.int (5 : Int32)), (.ref a1)])
  refine own_newP X3 hx hZ (hw _ (List.mem_of_getElem? (i := 12) rfl)) e3 (hb hby d1_15) 5 5 (by decide) (by decide) (by decide) (by decide) (by decide) ?_
  intro T6 h6 b6 X6 e6 g6 E6 A6
  have E_a1_7 : Exa Z h3 a1 "com/example/wayfold/wayfold/engine/DayTiming$Timeline" := (Exa.wr W3 E_a1_5)
  have lt_a1_b6 : a1 < b6 := Nat.lt_of_lt_of_le E_a1_7.lt (Nat.le_of_eq g6.symm)
  have V2_8 : own_Arr Z h3 b2 .int [(.int (0 : Int32)), (.int (0 : Int32)), (.int (0 : Int32)), (.int (0 : Int32))] := (own_Arr.other V2_0 W3 (Ne.symm (Nat.ne_of_lt lt_a1_b2)))
  have lt_b2_b6 : b2 < b6 := Nat.lt_of_lt_of_le V2_8.lt (Nat.le_of_eq g6.symm)
  have g_b6 : n0 ≤ b6 := Nat.le_trans sz3 (Nat.le_of_eq g6.symm)
  have sz6 : n0 ≤ h6.size := Nat.le_trans sz3 E6.1
  have szk_b6 : h0.size ≤ b6 := Nat.le_trans K3.1 (Nat.le_of_eq g6.symm)
  have K6 : Keep h0 h6 [a1] := K3.ext E6
  have V6_0 : own_Arr Z h6 b6 .double [(defaultValue .double), (defaultValue .double), (defaultValue .double), (defaultValue .double), (defaultValue .double)] := A6
  show own_Go p e below _ T6 (mkF m 17 #[.val (.ref a1), .val (.int (4 : Int32))] [(.ref b6), (.ref a1)])
  have F_leave_10 : Fld Z h6 a1 "com/example/wayfold/wayfold/engine/DayTiming$Timeline" "leave" "[D" .null := (Fld.ext E6 (Fld.other W3 (Fld.ext E2 F_leave) (Or.inr (slot_ne (Or.inr (hw _ (List.mem_of_getElem? (i := 14) rfl))) (Or.inr (hw _ (List.mem_of_getElem? (i := 11) rfl))) (by decide) (t := (.array .double)) (t' := (.array .int)) (by decide) (by decide)))))
  have E_a1_11 : Exa Z h6 a1 "com/example/wayfold/wayfold/engine/DayTiming$Timeline" := (Exa.ext E6 E_a1_7)
  refine own_putF X6 hx hZ hown (hw _ (List.mem_of_getElem? (i := 13) rfl)) Via.refl e6 F_leave_10 E_a1_11 (Or.inr ⟨(hw _ (List.mem_of_getElem? (i := 14) rfl)), rfl, hnm⟩) (hw _ (List.mem_of_getElem? (i := 1) rfl)) (ty := (.array .double)) (by decide) rfl rfl (hb hby d1_17) ?_
  intro T9 h9 X9 e9 W9
  have F9 := Fld.same W9 F_leave_10
  have N9 := Fr.snoc X9 N3 g_a1
  have sz9 : n0 ≤ h9.size := Nat.le_trans sz6 (Keep.of_wr W9).1
  have K9 : Keep h0 h9 [a1] := K6.wr W9 (Or.inl (List.mem_cons_self ..))
  show own_Go p e below _ T9 (mkF m 20 #[.val (.ref a1), .val (.int (4 : Int32))] [])
  refine own_by (fun t_ k_ => XS.aloadN X9.here hx rfl (hb hby d1_20) rfl rfl k_) ?_
  show own_Go p e below _ T9 (mkF m 21 #[.val (.ref a1), .val (.int (4 : Int32))] [(.ref a1)])
  refine own_by (fun t_ k_ => XS.iloadN X9.here hx rfl (hb hby d1_21) rfl k_) ?_
  show own_Go p e below _ T9 (mkF m 22 #[.val (.ref a1), .val (.int (4 : Int32))] [(.int (4 : Int32)), (.ref a1)])
  refine own_by (fun t_ k_ => XS.iconst X9.here hx rfl (hb hby d1_22) k_) ?_
  show own_Go p e below _ T9 (mkF m 23 #[.val (.ref a1), .val (.int (4 : Int32))] [(.int (1 : Int32)), (.int (4 : Int32)), (.ref a1)])
  refine own_by (fun t_ k_ => XS.iadd X9.here hx rfl (hb hby d1_23) rfl k_) ?_
  show own_Go p e below _ T9 (mkF m 24 #[.val (.ref a1), .val (.int (4 : Int32))] [(.int (5 : Int32)), (.ref a1)])
  refine own_newP X9 hx hZ (hw _ (List.mem_of_getElem? (i := 12) rfl)) e9 (hb hby d1_24) 5 5 (by decide) (by decide) (by decide) (by decide) (by decide) ?_
  intro T12 h12 b12 X12 e12 g12 E12 A12
  have E_a1_13 : Exa Z h9 a1 "com/example/wayfold/wayfold/engine/DayTiming$Timeline" := (Exa.wr W9 E_a1_11)
  have lt_a1_b12 : a1 < b12 := Nat.lt_of_lt_of_le E_a1_13.lt (Nat.le_of_eq g12.symm)
  have V2_14 : own_Arr Z h9 b2 .int [(.int (0 : Int32)), (.int (0 : Int32)), (.int (0 : Int32)), (.int (0 : Int32))] := (own_Arr.other (own_Arr.ext V2_8 E6) W9 (Ne.symm (Nat.ne_of_lt lt_a1_b2)))
  have lt_b2_b12 : b2 < b12 := Nat.lt_of_lt_of_le V2_14.lt (Nat.le_of_eq g12.symm)
  have V6_15 : own_Arr Z h9 b6 .double [(defaultValue .double), (defaultValue .double), (defaultValue .double), (defaultValue .double), (defaultValue .double)] := (own_Arr.other V6_0 W9 (Ne.symm (Nat.ne_of_lt lt_a1_b6)))
  have lt_b6_b12 : b6 < b12 := Nat.lt_of_lt_of_le V6_15.lt (Nat.le_of_eq g12.symm)
  have g_b12 : n0 ≤ b12 := Nat.le_trans sz9 (Nat.le_of_eq g12.symm)
  have sz12 : n0 ≤ h12.size := Nat.le_trans sz9 E12.1
  have szk_b12 : h0.size ≤ b12 := Nat.le_trans K9.1 (Nat.le_of_eq g12.symm)
  have K12 : Keep h0 h12 [a1] := K9.ext E12
  have V12_0 : own_Arr Z h12 b12 .double [(defaultValue .double), (defaultValue .double), (defaultValue .double), (defaultValue .double), (defaultValue .double)] := A12
  show own_Go p e below _ T12 (mkF m 26 #[.val (.ref a1), .val (.int (4 : Int32))] [(.ref b12), (.ref a1)])
  have F_interest_17 : Fld Z h12 a1 "com/example/wayfold/wayfold/engine/DayTiming$Timeline" "interest" "[D" .null := (Fld.ext E12 (Fld.other W9 (Fld.ext E6 (Fld.other W3 (Fld.ext E2 F_interest) (Or.inr (slot_ne (Or.inr (hw _ (List.mem_of_getElem? (i := 16) rfl))) (Or.inr (hw _ (List.mem_of_getElem? (i := 11) rfl))) (by decide) (t := (.array .double)) (t' := (.array .int)) (by decide) (by decide))))) (Or.inr (slot_ne (Or.inr (hw _ (List.mem_of_getElem? (i := 16) rfl))) (Or.inr (hw _ (List.mem_of_getElem? (i := 14) rfl))) (by decide) (t := (.array .double)) (t' := (.array .double)) (by decide) (by decide)))))
  have E_a1_18 : Exa Z h12 a1 "com/example/wayfold/wayfold/engine/DayTiming$Timeline" := (Exa.ext E12 E_a1_13)
  refine own_putF X12 hx hZ hown (hw _ (List.mem_of_getElem? (i := 15) rfl)) Via.refl e12 F_interest_17 E_a1_18 (Or.inr ⟨(hw _ (List.mem_of_getElem? (i := 16) rfl)), rfl, hnm⟩) (hw _ (List.mem_of_getElem? (i := 1) rfl)) (ty := (.array .double)) (by decide) rfl rfl (hb hby d1_26) ?_
  intro T16 h16 X16 e16 W16
  have F16 := Fld.same W16 F_interest_17
  have N16 := Fr.snoc X16 N9 g_a1
  have sz16 : n0 ≤ h16.size := Nat.le_trans sz12 (Keep.of_wr W16).1
  have K16 : Keep h0 h16 [a1] := K12.wr W16 (Or.inl (List.mem_cons_self ..))
  show own_Go p e below _ T16 (mkF m 29 #[.val (.ref a1), .val (.int (4 : Int32))] [])
  refine own_by (fun t_ k_ => XS.aloadN X16.here hx rfl (hb hby d1_29) rfl rfl k_) ?_
  show own_Go p e below _ T16 (mkF m 30 #[.val (.ref a1), .val (.int (4 : Int32))] [(.ref a1)])
  refine own_by (fun t_ k_ => XS.iloadN X16.here hx rfl (hb hby d1_30) rfl k_) ?_
  show own_Go p e below _ T16 (mkF m 31 #[.val (.ref a1), .val (.int (4 : Int32))] [(.int (4 : Int32)), (.ref a1)])
  refine own_by (fun t_ k_ => XS.iconst X16.here hx rfl (hb hby d1_31) k_) ?_
  show own_Go p e below _ T16 (mkF m 32 #[.val (.ref a1), .val (.int (4 : Int32))] [(.int (1 : Int32)), (.int (4 : Int32)), (.ref a1)])
  refine own_by (fun t_ k_ => XS.iadd X16.here hx rfl (hb hby d1_32) rfl k_) ?_
  show own_Go p e below _ T16 (mkF m 33 #[.val (.ref a1), .val (.int (4 : Int32))] [(.int (5 : Int32)), (.ref a1)])
  refine own_newP X16 hx hZ (hw _ (List.mem_of_getElem? (i := 12) rfl)) e16 (hb hby d1_33) 5 5 (by decide) (by decide) (by decide) (by decide) (by decide) ?_
  intro T19 h19 b19 X19 e19 g19 E19 A19
  have E_a1_20 : Exa Z h16 a1 "com/example/wayfold/wayfold/engine/DayTiming$Timeline" := (Exa.wr W16 E_a1_18)
  have lt_a1_b19 : a1 < b19 := Nat.lt_of_lt_of_le E_a1_20.lt (Nat.le_of_eq g19.symm)
  have V2_21 : own_Arr Z h16 b2 .int [(.int (0 : Int32)), (.int (0 : Int32)), (.int (0 : Int32)), (.int (0 : Int32))] := (own_Arr.other (own_Arr.ext V2_14 E12) W16 (Ne.symm (Nat.ne_of_lt lt_a1_b2)))
  have lt_b2_b19 : b2 < b19 := Nat.lt_of_lt_of_le V2_21.lt (Nat.le_of_eq g19.symm)
  have V6_22 : own_Arr Z h16 b6 .double [(defaultValue .double), (defaultValue .double), (defaultValue .double), (defaultValue .double), (defaultValue .double)] := (own_Arr.other (own_Arr.ext V6_15 E12) W16 (Ne.symm (Nat.ne_of_lt lt_a1_b6)))
  have lt_b6_b19 : b6 < b19 := Nat.lt_of_lt_of_le V6_22.lt (Nat.le_of_eq g19.symm)
  have V12_23 : own_Arr Z h16 b12 .double [(defaultValue .double), (defaultValue .double), (defaultValue .double), (defaultValue .double), (defaultValue .double)] := (own_Arr.other V12_0 W16 (Ne.symm (Nat.ne_of_lt lt_a1_b12)))
  have lt_b12_b19 : b12 < b19 := Nat.lt_of_lt_of_le V12_23.lt (Nat.le_of_eq g19.symm)
  have g_b19 : n0 ≤ b19 := Nat.le_trans sz16 (Nat.le_of_eq g19.symm)
  have sz19 : n0 ≤ h19.size := Nat.le_trans sz16 E19.1
  have szk_b19 : h0.size ≤ b19 := Nat.le_trans K16.1 (Nat.le_of_eq g19.symm)
  have K19 : Keep h0 h19 [a1] := K16.ext E19
  have V19_0 : own_Arr Z h19 b19 .double [(defaultValue .double), (defaultValue .double), (defaultValue .double), (defaultValue .double), (defaultValue .double)] := A19
  show own_Go p e below _ T19 (mkF m 35 #[.val (.ref a1), .val (.int (4 : Int32))] [(.ref b19), (.ref a1)])
  have F_travel_25 : Fld Z h19 a1 "com/example/wayfold/wayfold/engine/DayTiming$Timeline" "travel" "[D" .null := (Fld.ext E19 (Fld.other W16 (Fld.ext E12 (Fld.other W9 (Fld.ext E6 (Fld.other W3 (Fld.ext E2 F_travel) (Or.inr (slot_ne (Or.inr (hw _ (List.mem_of_getElem? (i := 18) rfl))) (Or.inr (hw _ (List.mem_of_getElem? (i := 11) rfl))) (by decide) (t := (.array .double)) (t' := (.array .int)) (by decide) (by decide))))) (Or.inr (slot_ne (Or.inr (hw _ (List.mem_of_getElem? (i := 18) rfl))) (Or.inr (hw _ (List.mem_of_getElem? (i := 14) rfl))) (by decide) (t := (.array .double)) (t' := (.array .double)) (by decide) (by decide))))) (Or.inr (slot_ne (Or.inr (hw _ (List.mem_of_getElem? (i := 18) rfl))) (Or.inr (hw _ (List.mem_of_getElem? (i := 16) rfl))) (by decide) (t := (.array .double)) (t' := (.array .double)) (by decide) (by decide)))))
  have E_a1_26 : Exa Z h19 a1 "com/example/wayfold/wayfold/engine/DayTiming$Timeline" := (Exa.ext E19 E_a1_20)
  refine own_putF X19 hx hZ hown (hw _ (List.mem_of_getElem? (i := 17) rfl)) Via.refl e19 F_travel_25 E_a1_26 (Or.inr ⟨(hw _ (List.mem_of_getElem? (i := 18) rfl)), rfl, hnm⟩) (hw _ (List.mem_of_getElem? (i := 1) rfl)) (ty := (.array .double)) (by decide) rfl rfl (hb hby d1_35) ?_
  intro T24 h24 X24 e24 W24
  have F24 := Fld.same W24 F_travel_25
  have N24 := Fr.snoc X24 N16 g_a1
  have sz24 : n0 ≤ h24.size := Nat.le_trans sz19 (Keep.of_wr W24).1
  have K24 : Keep h0 h24 [a1] := K19.wr W24 (Or.inl (List.mem_cons_self ..))
  show own_Go p e below _ T24 (mkF m 38 #[.val (.ref a1), .val (.int (4 : Int32))] [])
  refine own_by (fun t_ k_ => XS.aloadN X24.here hx rfl (hb hby d1_38) rfl rfl k_) ?_
  show own_Go p e below _ T24 (mkF m 39 #[.val (.ref a1), .val (.int (4 : Int32))] [(.ref a1)])
  refine own_by (fun t_ k_ => XS.iloadN X24.here hx rfl (hb hby d1_39) rfl k_) ?_
  show own_Go p e below _ T24 (mkF m 40 #[.val (.ref a1), .val (.int (4 : Int32))] [(.int (4 : Int32)), (.ref a1)])
  refine own_by (fun t_ k_ => XS.iconst X24.here hx rfl (hb hby d1_40) k_) ?_
  show own_Go p e below _ T24 (mkF m 41 #[.val (.ref a1), .val (.int (4 : Int32))] [(.int (1 : Int32)), (.int (4 : Int32)), (.ref a1)])
  refine own_by (fun t_ k_ => XS.iadd X24.here hx rfl (hb hby d1_41) rfl k_) ?_
  show own_Go p e below _ T24 (mkF m 42 #[.val (.ref a1), .val (.int (4 : Int32))] [(.int (5 : Int32)), (.ref a1)])
  refine own_newP X24 hx hZ (hw _ (List.mem_of_getElem? (i := 12) rfl)) e24 (hb hby d1_42) 5 5 (by decide) (by decide) (by decide) (by decide) (by decide) ?_
  intro T27 h27 b27 X27 e27 g27 E27 A27
  have E_a1_28 : Exa Z h24 a1 "com/example/wayfold/wayfold/engine/DayTiming$Timeline" := (Exa.wr W24 E_a1_26)
  have lt_a1_b27 : a1 < b27 := Nat.lt_of_lt_of_le E_a1_28.lt (Nat.le_of_eq g27.symm)
  have V2_29 : own_Arr Z h24 b2 .int [(.int (0 : Int32)), (.int (0 : Int32)), (.int (0 : Int32)), (.int (0 : Int32))] := (own_Arr.other (own_Arr.ext V2_21 E19) W24 (Ne.symm (Nat.ne_of_lt lt_a1_b2)))
  have lt_b2_b27 : b2 < b27 := Nat.lt_of_lt_of_le V2_29.lt (Nat.le_of_eq g27.symm)
  have V6_30 : own_Arr Z h24 b6 .double [(defaultValue .double), (defaultValue .double), (defaultValue .double), (defaultValue .double), (defaultValue .double)] := (own_Arr.other (own_Arr.ext V6_22 E19) W24 (Ne.symm (Nat.ne_of_lt lt_a1_b6)))
  have lt_b6_b27 : b6 < b27 := Nat.lt_of_lt_of_le V6_30.lt (Nat.le_of_eq g27.symm)
  have V12_31 : own_Arr Z h24 b12 .double [(defaultValue .double), (defaultValue .double), (defaultValue .double), (defaultValue .double), (defaultValue .double)] := (own_Arr.other (own_Arr.ext V12_23 E19) W24 (Ne.symm (Nat.ne_of_lt lt_a1_b12)))
  have lt_b12_b27 : b12 < b27 := Nat.lt_of_lt_of_le V12_31.lt (Nat.le_of_eq g27.symm)
  have V19_32 : own_Arr Z h24 b19 .double [(defaultValue .double), (defaultValue .double), (defaultValue .double), (defaultValue .double), (defaultValue .double)] := (own_Arr.other V19_0 W24 (Ne.symm (Nat.ne_of_lt lt_a1_b19)))
  have lt_b19_b27 : b19 < b27 := Nat.lt_of_lt_of_le V19_32.lt (Nat.le_of_eq g27.symm)
  have g_b27 : n0 ≤ b27 := Nat.le_trans sz24 (Nat.le_of_eq g27.symm)
  have sz27 : n0 ≤ h27.size := Nat.le_trans sz24 E27.1
  have szk_b27 : h0.size ≤ b27 := Nat.le_trans K24.1 (Nat.le_of_eq g27.symm)
  have K27 : Keep h0 h27 [a1] := K24.ext E27
  have V27_0 : own_Arr Z h27 b27 .double [(defaultValue .double), (defaultValue .double), (defaultValue .double), (defaultValue .double), (defaultValue .double)] := A27
  show own_Go p e below _ T27 (mkF m 44 #[.val (.ref a1), .val (.int (4 : Int32))] [(.ref b27), (.ref a1)])
  have F_visit_34 : Fld Z h27 a1 "com/example/wayfold/wayfold/engine/DayTiming$Timeline" "visit" "[D" .null := (Fld.ext E27 (Fld.other W24 (Fld.ext E19 (Fld.other W16 (Fld.ext E12 (Fld.other W9 (Fld.ext E6 (Fld.other W3 (Fld.ext E2 F_visit) (Or.inr (slot_ne (Or.inr (hw _ (List.mem_of_getElem? (i := 20) rfl))) (Or.inr (hw _ (List.mem_of_getElem? (i := 11) rfl))) (by decide) (t := (.array .double)) (t' := (.array .int)) (by decide) (by decide))))) (Or.inr (slot_ne (Or.inr (hw _ (List.mem_of_getElem? (i := 20) rfl))) (Or.inr (hw _ (List.mem_of_getElem? (i := 14) rfl))) (by decide) (t := (.array .double)) (t' := (.array .double)) (by decide) (by decide))))) (Or.inr (slot_ne (Or.inr (hw _ (List.mem_of_getElem? (i := 20) rfl))) (Or.inr (hw _ (List.mem_of_getElem? (i := 16) rfl))) (by decide) (t := (.array .double)) (t' := (.array .double)) (by decide) (by decide))))) (Or.inr (slot_ne (Or.inr (hw _ (List.mem_of_getElem? (i := 20) rfl))) (Or.inr (hw _ (List.mem_of_getElem? (i := 18) rfl))) (by decide) (t := (.array .double)) (t' := (.array .double)) (by decide) (by decide)))))
  have E_a1_35 : Exa Z h27 a1 "com/example/wayfold/wayfold/engine/DayTiming$Timeline" := (Exa.ext E27 E_a1_28)
  refine own_putF X27 hx hZ hown (hw _ (List.mem_of_getElem? (i := 19) rfl)) Via.refl e27 F_visit_34 E_a1_35 (Or.inr ⟨(hw _ (List.mem_of_getElem? (i := 20) rfl)), rfl, hnm⟩) (hw _ (List.mem_of_getElem? (i := 1) rfl)) (ty := (.array .double)) (by decide) rfl rfl (hb hby d1_44) ?_
  intro T33 h33 X33 e33 W33
  have F33 := Fld.same W33 F_visit_34
  have N33 := Fr.snoc X33 N24 g_a1
  have sz33 : n0 ≤ h33.size := Nat.le_trans sz27 (Keep.of_wr W33).1
  have K33 : Keep h0 h33 [a1] := K27.wr W33 (Or.inl (List.mem_cons_self ..))
  show own_Go p e below _ T33 (mkF m 47 #[.val (.ref a1), .val (.int (4 : Int32))] [])
  refine own_by (fun t_ k_ => XS.aloadN X33.here hx rfl (hb hby d1_47) rfl rfl k_) ?_
  show own_Go p e below _ T33 (mkF m 48 #[.val (.ref a1), .val (.int (4 : Int32))] [(.ref a1)])
  refine own_by (fun t_ k_ => XS.iloadN X33.here hx rfl (hb hby d1_48) rfl k_) ?_
  show own_Go p e below _ T33 (mkF m 49 #[.val (.ref a1), .val (.int (4 : Int32))] [(.int (4 : Int32)), (.ref a1)])
  refine own_by (fun t_ k_ => XS.iconst X33.here hx rfl (hb hby d1_49) k_) ?_
  show own_Go p e below _ T33 (mkF m 50 #[.val (.ref a1), .val (.int (4 : Int32))] [(.int (1 : Int32)), (.int (4 : Int32)), (.ref a1)])
  refine own_by (fun t_ k_ => XS.iadd X33.here hx rfl (hb hby d1_50) rfl k_) ?_
  show own_Go p e below _ T33 (mkF m 51 #[.val (.ref a1), .val (.int (4 : Int32))] [(.int (5 : Int32)), (.ref a1)])
  refine own_newP X33 hx hZ (hw _ (List.mem_of_getElem? (i := 12) rfl)) e33 (hb hby d1_51) 5 5 (by decide) (by decide) (by decide) (by decide) (by decide) ?_
  intro T36 h36 b36 X36 e36 g36 E36 A36
  have E_a1_37 : Exa Z h33 a1 "com/example/wayfold/wayfold/engine/DayTiming$Timeline" := (Exa.wr W33 E_a1_35)
  have lt_a1_b36 : a1 < b36 := Nat.lt_of_lt_of_le E_a1_37.lt (Nat.le_of_eq g36.symm)
  have V2_38 : own_Arr Z h33 b2 .int [(.int (0 : Int32)), (.int (0 : Int32)), (.int (0 : Int32)), (.int (0 : Int32))] := (own_Arr.other (own_Arr.ext V2_29 E27) W33 (Ne.symm (Nat.ne_of_lt lt_a1_b2)))
  have lt_b2_b36 : b2 < b36 := Nat.lt_of_lt_of_le V2_38.lt (Nat.le_of_eq g36.symm)
  have V6_39 : own_Arr Z h33 b6 .double [(defaultValue .double), (defaultValue .double), (defaultValue .double), (defaultValue .double), (defaultValue .double)] := (own_Arr.other (own_Arr.ext V6_30 E27) W33 (Ne.symm (Nat.ne_of_lt lt_a1_b6)))
  have lt_b6_b36 : b6 < b36 := Nat.lt_of_lt_of_le V6_39.lt (Nat.le_of_eq g36.symm)
  have V12_40 : own_Arr Z h33 b12 .double [(defaultValue .double), (defaultValue .double), (defaultValue .double), (defaultValue .double), (defaultValue .double)] := (own_Arr.other (own_Arr.ext V12_31 E27) W33 (Ne.symm (Nat.ne_of_lt lt_a1_b12)))
  have lt_b12_b36 : b12 < b36 := Nat.lt_of_lt_of_le V12_40.lt (Nat.le_of_eq g36.symm)
  have V19_41 : own_Arr Z h33 b19 .double [(defaultValue .double), (defaultValue .double), (defaultValue .double), (defaultValue .double), (defaultValue .double)] := (own_Arr.other (own_Arr.ext V19_32 E27) W33 (Ne.symm (Nat.ne_of_lt lt_a1_b19)))
  have lt_b19_b36 : b19 < b36 := Nat.lt_of_lt_of_le V19_41.lt (Nat.le_of_eq g36.symm)
  have V27_42 : own_Arr Z h33 b27 .double [(defaultValue .double), (defaultValue .double), (defaultValue .double), (defaultValue .double), (defaultValue .double)] := (own_Arr.other V27_0 W33 (Ne.symm (Nat.ne_of_lt lt_a1_b27)))
  have lt_b27_b36 : b27 < b36 := Nat.lt_of_lt_of_le V27_42.lt (Nat.le_of_eq g36.symm)
  have g_b36 : n0 ≤ b36 := Nat.le_trans sz33 (Nat.le_of_eq g36.symm)
  have sz36 : n0 ≤ h36.size := Nat.le_trans sz33 E36.1
  have szk_b36 : h0.size ≤ b36 := Nat.le_trans K33.1 (Nat.le_of_eq g36.symm)
  have K36 : Keep h0 h36 [a1] := K33.ext E36
  have V36_0 : own_Arr Z h36 b36 .double [(defaultValue .double), (defaultValue .double), (defaultValue .double), (defaultValue .double), (defaultValue .double)] := A36
  show own_Go p e below _ T36 (mkF m 53 #[.val (.ref a1), .val (.int (4 : Int32))] [(.ref b36), (.ref a1)])
  have F_waiting_44 : Fld Z h36 a1 "com/example/wayfold/wayfold/engine/DayTiming$Timeline" "waiting" "[D" .null := (Fld.ext E36 (Fld.other W33 (Fld.ext E27 (Fld.other W24 (Fld.ext E19 (Fld.other W16 (Fld.ext E12 (Fld.other W9 (Fld.ext E6 (Fld.other W3 (Fld.ext E2 F_waiting) (Or.inr (slot_ne (Or.inr (hw _ (List.mem_of_getElem? (i := 22) rfl))) (Or.inr (hw _ (List.mem_of_getElem? (i := 11) rfl))) (by decide) (t := (.array .double)) (t' := (.array .int)) (by decide) (by decide))))) (Or.inr (slot_ne (Or.inr (hw _ (List.mem_of_getElem? (i := 22) rfl))) (Or.inr (hw _ (List.mem_of_getElem? (i := 14) rfl))) (by decide) (t := (.array .double)) (t' := (.array .double)) (by decide) (by decide))))) (Or.inr (slot_ne (Or.inr (hw _ (List.mem_of_getElem? (i := 22) rfl))) (Or.inr (hw _ (List.mem_of_getElem? (i := 16) rfl))) (by decide) (t := (.array .double)) (t' := (.array .double)) (by decide) (by decide))))) (Or.inr (slot_ne (Or.inr (hw _ (List.mem_of_getElem? (i := 22) rfl))) (Or.inr (hw _ (List.mem_of_getElem? (i := 18) rfl))) (by decide) (t := (.array .double)) (t' := (.array .double)) (by decide) (by decide))))) (Or.inr (slot_ne (Or.inr (hw _ (List.mem_of_getElem? (i := 22) rfl))) (Or.inr (hw _ (List.mem_of_getElem? (i := 20) rfl))) (by decide) (t := (.array .double)) (t' := (.array .double)) (by decide) (by decide)))))
  have E_a1_45 : Exa Z h36 a1 "com/example/wayfold/wayfold/engine/DayTiming$Timeline" := (Exa.ext E36 E_a1_37)
  refine own_putF X36 hx hZ hown (hw _ (List.mem_of_getElem? (i := 21) rfl)) Via.refl e36 F_waiting_44 E_a1_45 (Or.inr ⟨(hw _ (List.mem_of_getElem? (i := 22) rfl)), rfl, hnm⟩) (hw _ (List.mem_of_getElem? (i := 1) rfl)) (ty := (.array .double)) (by decide) rfl rfl (hb hby d1_53) ?_
  intro T43 h43 X43 e43 W43
  have F43 := Fld.same W43 F_waiting_44
  have N43 := Fr.snoc X43 N33 g_a1
  have sz43 : n0 ≤ h43.size := Nat.le_trans sz36 (Keep.of_wr W43).1
  have K43 : Keep h0 h43 [a1] := K36.wr W43 (Or.inl (List.mem_cons_self ..))
  show own_Go p e below _ T43 (mkF m 56 #[.val (.ref a1), .val (.int (4 : Int32))] [])
  refine own_by (fun t_ k_ => XS.aloadN X43.here hx rfl (hb hby d1_56) rfl rfl k_) ?_
  show own_Go p e below _ T43 (mkF m 57 #[.val (.ref a1), .val (.int (4 : Int32))] [(.ref a1)])
  refine own_by (fun t_ k_ => XS.iloadN X43.here hx rfl (hb hby d1_57) rfl k_) ?_
  show own_Go p e below _ T43 (mkF m 58 #[.val (.ref a1), .val (.int (4 : Int32))] [(.int (4 : Int32)), (.ref a1)])
  refine own_by (fun t_ k_ => XS.iconst X43.here hx rfl (hb hby d1_58) k_) ?_
  show own_Go p e below _ T43 (mkF m 59 #[.val (.ref a1), .val (.int (4 : Int32))] [(.int (1 : Int32)), (.int (4 : Int32)), (.ref a1)])
  refine own_by (fun t_ k_ => XS.iadd X43.here hx rfl (hb hby d1_59) rfl k_) ?_
  show own_Go p e below _ T43 (mkF m 60 #[.val (.ref a1), .val (.int (4 : Int32))] [(.int (5 : Int32)), (.ref a1)])
  refine own_newP X43 hx hZ (hw _ (List.mem_of_getElem? (i := 12) rfl)) e43 (hb hby d1_60) 5 5 (by decide) (by decide) (by decide) (by decide) (by decide) ?_
  intro T46 h46 b46 X46 e46 g46 E46 A46
  have E_a1_47 : Exa Z h43 a1 "com/example/wayfold/wayfold/engine/DayTiming$Timeline" := (Exa.wr W43 E_a1_45)
  have lt_a1_b46 : a1 < b46 := Nat.lt_of_lt_of_le E_a1_47.lt (Nat.le_of_eq g46.symm)
  have V2_48 : own_Arr Z h43 b2 .int [(.int (0 : Int32)), (.int (0 : Int32)), (.int (0 : Int32)), (.int (0 : Int32))] := (own_Arr.other (own_Arr.ext V2_38 E36) W43 (Ne.symm (Nat.ne_of_lt lt_a1_b2)))
  have lt_b2_b46 : b2 < b46 := Nat.lt_of_lt_of_le V2_48.lt (Nat.le_of_eq g46.symm)
  have V6_49 : own_Arr Z h43 b6 .double [(defaultValue .double), (defaultValue .double), (defaultValue .double), (defaultValue .double), (defaultValue .double)] := (own_Arr.other (own_Arr.ext V6_39 E36) W43 (Ne.symm (Nat.ne_of_lt lt_a1_b6)))
  have lt_b6_b46 : b6 < b46 := Nat.lt_of_lt_of_le V6_49.lt (Nat.le_of_eq g46.symm)
  have V12_50 : own_Arr Z h43 b12 .double [(defaultValue .double), (defaultValue .double), (defaultValue .double), (defaultValue .double), (defaultValue .double)] := (own_Arr.other (own_Arr.ext V12_40 E36) W43 (Ne.symm (Nat.ne_of_lt lt_a1_b12)))
  have lt_b12_b46 : b12 < b46 := Nat.lt_of_lt_of_le V12_50.lt (Nat.le_of_eq g46.symm)
  have V19_51 : own_Arr Z h43 b19 .double [(defaultValue .double), (defaultValue .double), (defaultValue .double), (defaultValue .double), (defaultValue .double)] := (own_Arr.other (own_Arr.ext V19_41 E36) W43 (Ne.symm (Nat.ne_of_lt lt_a1_b19)))
  have lt_b19_b46 : b19 < b46 := Nat.lt_of_lt_of_le V19_51.lt (Nat.le_of_eq g46.symm)
  have V27_52 : own_Arr Z h43 b27 .double [(defaultValue .double), (defaultValue .double), (defaultValue .double), (defaultValue .double), (defaultValue .double)] := (own_Arr.other (own_Arr.ext V27_42 E36) W43 (Ne.symm (Nat.ne_of_lt lt_a1_b27)))
  have lt_b27_b46 : b27 < b46 := Nat.lt_of_lt_of_le V27_52.lt (Nat.le_of_eq g46.symm)
  have V36_53 : own_Arr Z h43 b36 .double [(defaultValue .double), (defaultValue .double), (defaultValue .double), (defaultValue .double), (defaultValue .double)] := (own_Arr.other V36_0 W43 (Ne.symm (Nat.ne_of_lt lt_a1_b36)))
  have lt_b36_b46 : b36 < b46 := Nat.lt_of_lt_of_le V36_53.lt (Nat.le_of_eq g46.symm)
  have g_b46 : n0 ≤ b46 := Nat.le_trans sz43 (Nat.le_of_eq g46.symm)
  have sz46 : n0 ≤ h46.size := Nat.le_trans sz43 E46.1
  have szk_b46 : h0.size ≤ b46 := Nat.le_trans K43.1 (Nat.le_of_eq g46.symm)
  have K46 : Keep h0 h46 [a1] := K43.ext E46
  have V46_0 : own_Arr Z h46 b46 .double [(defaultValue .double), (defaultValue .double), (defaultValue .double), (defaultValue .double), (defaultValue .double)] := A46
  show own_Go p e below _ T46 (mkF m 62 #[.val (.ref a1), .val (.int (4 : Int32))] [(.ref b46), (.ref a1)])
  have F_load_55 : Fld Z h46 a1 "com/example/wayfold/wayfold/engine/DayTiming$Timeline" "load" "[D" .null := (Fld.ext E46 (Fld.other W43 (Fld.ext E36 (Fld.other W33 (Fld.ext E27 (Fld.other W24 (Fld.ext E19 (Fld.other W16 (Fld.ext E12 (Fld.other W9 (Fld.ext E6 (Fld.other W3 (Fld.ext E2 F_load) (Or.inr (slot_ne (Or.inr (hw _ (List.mem_of_getElem? (i := 24) rfl))) (Or.inr (hw _ (List.mem_of_getElem? (i := 11) rfl))) (by decide) (t := (.array .double)) (t' := (.array .int)) (by decide) (by decide))))) (Or.inr (slot_ne (Or.inr (hw _ (List.mem_of_getElem? (i := 24) rfl))) (Or.inr (hw _ (List.mem_of_getElem? (i := 14) rfl))) (by decide) (t := (.array .double)) (t' := (.array .double)) (by decide) (by decide))))) (Or.inr (slot_ne (Or.inr (hw _ (List.mem_of_getElem? (i := 24) rfl))) (Or.inr (hw _ (List.mem_of_getElem? (i := 16) rfl))) (by decide) (t := (.array .double)) (t' := (.array .double)) (by decide) (by decide))))) (Or.inr (slot_ne (Or.inr (hw _ (List.mem_of_getElem? (i := 24) rfl))) (Or.inr (hw _ (List.mem_of_getElem? (i := 18) rfl))) (by decide) (t := (.array .double)) (t' := (.array .double)) (by decide) (by decide))))) (Or.inr (slot_ne (Or.inr (hw _ (List.mem_of_getElem? (i := 24) rfl))) (Or.inr (hw _ (List.mem_of_getElem? (i := 20) rfl))) (by decide) (t := (.array .double)) (t' := (.array .double)) (by decide) (by decide))))) (Or.inr (slot_ne (Or.inr (hw _ (List.mem_of_getElem? (i := 24) rfl))) (Or.inr (hw _ (List.mem_of_getElem? (i := 22) rfl))) (by decide) (t := (.array .double)) (t' := (.array .double)) (by decide) (by decide)))))
  have E_a1_56 : Exa Z h46 a1 "com/example/wayfold/wayfold/engine/DayTiming$Timeline" := (Exa.ext E46 E_a1_47)
  refine own_putF X46 hx hZ hown (hw _ (List.mem_of_getElem? (i := 23) rfl)) Via.refl e46 F_load_55 E_a1_56 (Or.inr ⟨(hw _ (List.mem_of_getElem? (i := 24) rfl)), rfl, hnm⟩) (hw _ (List.mem_of_getElem? (i := 1) rfl)) (ty := (.array .double)) (by decide) rfl rfl (hb hby d1_62) ?_
  intro T54 h54 X54 e54 W54
  have F54 := Fld.same W54 F_load_55
  have N54 := Fr.snoc X54 N43 g_a1
  have sz54 : n0 ≤ h54.size := Nat.le_trans sz46 (Keep.of_wr W54).1
  have K54 : Keep h0 h54 [a1] := K46.wr W54 (Or.inl (List.mem_cons_self ..))
  show own_Go p e below _ T54 (mkF m 65 #[.val (.ref a1), .val (.int (4 : Int32))] [])
  refine own_by (fun t_ k_ => XS.aloadN X54.here hx rfl (hb hby d1_65) rfl rfl k_) ?_
  show own_Go p e below _ T54 (mkF m 66 #[.val (.ref a1), .val (.int (4 : Int32))] [(.ref a1)])
  refine own_by (fun t_ k_ => XS.iloadN X54.here hx rfl (hb hby d1_66) rfl k_) ?_
  show own_Go p e below _ T54 (mkF m 67 #[.val (.ref a1), .val (.int (4 : Int32))] [(.int (4 : Int32)), (.ref a1)])
  refine own_by (fun t_ k_ => XS.iconst X54.here hx rfl (hb hby d1_67) k_) ?_
  show own_Go p e below _ T54 (mkF m 68 #[.val (.ref a1), .val (.int (4 : Int32))] [(.int (1 : Int32)), (.int (4 : Int32)), (.ref a1)])
  refine own_by (fun t_ k_ => XS.iadd X54.here hx rfl (hb hby d1_68) rfl k_) ?_
  show own_Go p e below _ T54 (mkF m 69 #[.val (.ref a1), .val (.int (4 : Int32))] [(.int (5 : Int32)), (.ref a1)])
  refine own_newP X54 hx hZ (hw _ (List.mem_of_getElem? (i := 12) rfl)) e54 (hb hby d1_69) 5 5 (by decide) (by decide) (by decide) (by decide) (by decide) ?_
  intro T57 h57 b57 X57 e57 g57 E57 A57
  have E_a1_58 : Exa Z h54 a1 "com/example/wayfold/wayfold/engine/DayTiming$Timeline" := (Exa.wr W54 E_a1_56)
  have lt_a1_b57 : a1 < b57 := Nat.lt_of_lt_of_le E_a1_58.lt (Nat.le_of_eq g57.symm)
  have V2_59 : own_Arr Z h54 b2 .int [(.int (0 : Int32)), (.int (0 : Int32)), (.int (0 : Int32)), (.int (0 : Int32))] := (own_Arr.other (own_Arr.ext V2_48 E46) W54 (Ne.symm (Nat.ne_of_lt lt_a1_b2)))
  have lt_b2_b57 : b2 < b57 := Nat.lt_of_lt_of_le V2_59.lt (Nat.le_of_eq g57.symm)
  have V6_60 : own_Arr Z h54 b6 .double [(defaultValue .double), (defaultValue .double), (defaultValue .double), (defaultValue .double), (defaultValue .double)] := (own_Arr.other (own_Arr.ext V6_49 E46) W54 (Ne.symm (Nat.ne_of_lt lt_a1_b6)))
  have lt_b6_b57 : b6 < b57 := Nat.lt_of_lt_of_le V6_60.lt (Nat.le_of_eq g57.symm)
  have V12_61 : own_Arr Z h54 b12 .double [(defaultValue .double), (defaultValue .double), (defaultValue .double), (defaultValue .double), (defaultValue .double)] := (own_Arr.other (own_Arr.ext V12_50 E46) W54 (Ne.symm (Nat.ne_of_lt lt_a1_b12)))
  have lt_b12_b57 : b12 < b57 := Nat.lt_of_lt_of_le V12_61.lt (Nat.le_of_eq g57.symm)
  have V19_62 : own_Arr Z h54 b19 .double [(defaultValue .double), (defaultValue .double), (defaultValue .double), (defaultValue .double), (defaultValue .double)] := (own_Arr.other (own_Arr.ext V19_51 E46) W54 (Ne.symm (Nat.ne_of_lt lt_a1_b19)))
  have lt_b19_b57 : b19 < b57 := Nat.lt_of_lt_of_le V19_62.lt (Nat.le_of_eq g57.symm)
  have V27_63 : own_Arr Z h54 b27 .double [(defaultValue .double), (defaultValue .double), (defaultValue .double), (defaultValue .double), (defaultValue .double)] := (own_Arr.other (own_Arr.ext V27_52 E46) W54 (Ne.symm (Nat.ne_of_lt lt_a1_b27)))
  have lt_b27_b57 : b27 < b57 := Nat.lt_of_lt_of_le V27_63.lt (Nat.le_of_eq g57.symm)
  have V36_64 : own_Arr Z h54 b36 .double [(defaultValue .double), (defaultValue .double), (defaultValue .double), (defaultValue .double), (defaultValue .double)] := (own_Arr.other (own_Arr.ext V36_53 E46) W54 (Ne.symm (Nat.ne_of_lt lt_a1_b36)))
  have lt_b36_b57 : b36 < b57 := Nat.lt_of_lt_of_le V36_64.lt (Nat.le_of_eq g57.symm)
  have V46_65 : own_Arr Z h54 b46 .double [(defaultValue .double), (defaultValue .double), (defaultValue .double), (defaultValue .double), (defaultValue .double)] := (own_Arr.other V46_0 W54 (Ne.symm (Nat.ne_of_lt lt_a1_b46)))
  have lt_b46_b57 : b46 < b57 := Nat.lt_of_lt_of_le V46_65.lt (Nat.le_of_eq g57.symm)
  have g_b57 : n0 ≤ b57 := Nat.le_trans sz54 (Nat.le_of_eq g57.symm)
  have sz57 : n0 ≤ h57.size := Nat.le_trans sz54 E57.1
  have szk_b57 : h0.size ≤ b57 := Nat.le_trans K54.1 (Nat.le_of_eq g57.symm)
  have K57 : Keep h0 h57 [a1] := K54.ext E57
  have V57_0 : own_Arr Z h57 b57 .double [(defaultValue .double), (defaultValue .double), (defaultValue .double), (defaultValue .double), (defaultValue .double)] := A57
  show own_Go p e below _ T57 (mkF m 71 #[.val (.ref a1), .val (.int (4 : Int32))] [(.ref b57), (.ref a1)])
  have F_latest_67 : Fld Z h57 a1 "com/example/wayfold/wayfold/engine/DayTiming$Timeline" "latest" "[D" .null := (Fld.ext E57 (Fld.other W54 (Fld.ext E46 (Fld.other W43 (Fld.ext E36 (Fld.other W33 (Fld.ext E27 (Fld.other W24 (Fld.ext E19 (Fld.other W16 (Fld.ext E12 (Fld.other W9 (Fld.ext E6 (Fld.other W3 (Fld.ext E2 F_latest) (Or.inr (slot_ne (Or.inr (hw _ (List.mem_of_getElem? (i := 26) rfl))) (Or.inr (hw _ (List.mem_of_getElem? (i := 11) rfl))) (by decide) (t := (.array .double)) (t' := (.array .int)) (by decide) (by decide))))) (Or.inr (slot_ne (Or.inr (hw _ (List.mem_of_getElem? (i := 26) rfl))) (Or.inr (hw _ (List.mem_of_getElem? (i := 14) rfl))) (by decide) (t := (.array .double)) (t' := (.array .double)) (by decide) (by decide))))) (Or.inr (slot_ne (Or.inr (hw _ (List.mem_of_getElem? (i := 26) rfl))) (Or.inr (hw _ (List.mem_of_getElem? (i := 16) rfl))) (by decide) (t := (.array .double)) (t' := (.array .double)) (by decide) (by decide))))) (Or.inr (slot_ne (Or.inr (hw _ (List.mem_of_getElem? (i := 26) rfl))) (Or.inr (hw _ (List.mem_of_getElem? (i := 18) rfl))) (by decide) (t := (.array .double)) (t' := (.array .double)) (by decide) (by decide))))) (Or.inr (slot_ne (Or.inr (hw _ (List.mem_of_getElem? (i := 26) rfl))) (Or.inr (hw _ (List.mem_of_getElem? (i := 20) rfl))) (by decide) (t := (.array .double)) (t' := (.array .double)) (by decide) (by decide))))) (Or.inr (slot_ne (Or.inr (hw _ (List.mem_of_getElem? (i := 26) rfl))) (Or.inr (hw _ (List.mem_of_getElem? (i := 22) rfl))) (by decide) (t := (.array .double)) (t' := (.array .double)) (by decide) (by decide))))) (Or.inr (slot_ne (Or.inr (hw _ (List.mem_of_getElem? (i := 26) rfl))) (Or.inr (hw _ (List.mem_of_getElem? (i := 24) rfl))) (by decide) (t := (.array .double)) (t' := (.array .double)) (by decide) (by decide)))))
  have E_a1_68 : Exa Z h57 a1 "com/example/wayfold/wayfold/engine/DayTiming$Timeline" := (Exa.ext E57 E_a1_58)
  refine own_putF X57 hx hZ hown (hw _ (List.mem_of_getElem? (i := 25) rfl)) Via.refl e57 F_latest_67 E_a1_68 (Or.inr ⟨(hw _ (List.mem_of_getElem? (i := 26) rfl)), rfl, hnm⟩) (hw _ (List.mem_of_getElem? (i := 1) rfl)) (ty := (.array .double)) (by decide) rfl rfl (hb hby d1_71) ?_
  intro T66 h66 X66 e66 W66
  have F66 := Fld.same W66 F_latest_67
  have N66 := Fr.snoc X66 N54 g_a1
  have sz66 : n0 ≤ h66.size := Nat.le_trans sz57 (Keep.of_wr W66).1
  have K66 : Keep h0 h66 [a1] := K57.wr W66 (Or.inl (List.mem_cons_self ..))
  show own_Go p e below _ T66 (mkF m 74 #[.val (.ref a1), .val (.int (4 : Int32))] [])
  refine own_by (fun t_ k_ => XS.aloadN X66.here hx rfl (hb hby d1_74) rfl rfl k_) ?_
  show own_Go p e below _ T66 (mkF m 75 #[.val (.ref a1), .val (.int (4 : Int32))] [(.ref a1)])
  refine own_by (fun t_ k_ => XS.iloadN X66.here hx rfl (hb hby d1_75) rfl k_) ?_
  show own_Go p e below _ T66 (mkF m 76 #[.val (.ref a1), .val (.int (4 : Int32))] [(.int (4 : Int32)), (.ref a1)])
  refine own_by (fun t_ k_ => XS.iconst X66.here hx rfl (hb hby d1_76) k_) ?_
  show own_Go p e below _ T66 (mkF m 77 #[.val (.ref a1), .val (.int (4 : Int32))] [(.int (1 : Int32)), (.int (4 : Int32)), (.ref a1)])
  refine own_by (fun t_ k_ => XS.iadd X66.here hx rfl (hb hby d1_77) rfl k_) ?_
  show own_Go p e below _ T66 (mkF m 78 #[.val (.ref a1), .val (.int (4 : Int32))] [(.int (5 : Int32)), (.ref a1)])
  refine own_newP X66 hx hZ (hw _ (List.mem_of_getElem? (i := 12) rfl)) e66 (hb hby d1_78) 5 5 (by decide) (by decide) (by decide) (by decide) (by decide) ?_
  intro T69 h69 b69 X69 e69 g69 E69 A69
  have E_a1_70 : Exa Z h66 a1 "com/example/wayfold/wayfold/engine/DayTiming$Timeline" := (Exa.wr W66 E_a1_68)
  have lt_a1_b69 : a1 < b69 := Nat.lt_of_lt_of_le E_a1_70.lt (Nat.le_of_eq g69.symm)
  have V2_71 : own_Arr Z h66 b2 .int [(.int (0 : Int32)), (.int (0 : Int32)), (.int (0 : Int32)), (.int (0 : Int32))] := (own_Arr.other (own_Arr.ext V2_59 E57) W66 (Ne.symm (Nat.ne_of_lt lt_a1_b2)))
  have lt_b2_b69 : b2 < b69 := Nat.lt_of_lt_of_le V2_71.lt (Nat.le_of_eq g69.symm)
  have V6_72 : own_Arr Z h66 b6 .double [(defaultValue .double), (defaultValue .double), (defaultValue .double), (defaultValue .double), (defaultValue .double)] := (own_Arr.other (own_Arr.ext V6_60 E57) W66 (Ne.symm (Nat.ne_of_lt lt_a1_b6)))
  have lt_b6_b69 : b6 < b69 := Nat.lt_of_lt_of_le V6_72.lt (Nat.le_of_eq g69.symm)
  have V12_73 : own_Arr Z h66 b12 .double [(defaultValue .double), (defaultValue .double), (defaultValue .double), (defaultValue .double), (defaultValue .double)] := (own_Arr.other (own_Arr.ext V12_61 E57) W66 (Ne.symm (Nat.ne_of_lt lt_a1_b12)))
  have lt_b12_b69 : b12 < b69 := Nat.lt_of_lt_of_le V12_73.lt (Nat.le_of_eq g69.symm)
  have V19_74 : own_Arr Z h66 b19 .double [(defaultValue .double), (defaultValue .double), (defaultValue .double), (defaultValue .double), (defaultValue .double)] := (own_Arr.other (own_Arr.ext V19_62 E57) W66 (Ne.symm (Nat.ne_of_lt lt_a1_b19)))
  have lt_b19_b69 : b19 < b69 := Nat.lt_of_lt_of_le V19_74.lt (Nat.le_of_eq g69.symm)
  have V27_75 : own_Arr Z h66 b27 .double [(defaultValue .double), (defaultValue .double), (defaultValue .double), (defaultValue .double), (defaultValue .double)] := (own_Arr.other (own_Arr.ext V27_63 E57) W66 (Ne.symm (Nat.ne_of_lt lt_a1_b27)))
  have lt_b27_b69 : b27 < b69 := Nat.lt_of_lt_of_le V27_75.lt (Nat.le_of_eq g69.symm)
  have V36_76 : own_Arr Z h66 b36 .double [(defaultValue .double), (defaultValue .double), (defaultValue .double), (defaultValue .double), (defaultValue .double)] := (own_Arr.other (own_Arr.ext V36_64 E57) W66 (Ne.symm (Nat.ne_of_lt lt_a1_b36)))
  have lt_b36_b69 : b36 < b69 := Nat.lt_of_lt_of_le V36_76.lt (Nat.le_of_eq g69.symm)
  have V46_77 : own_Arr Z h66 b46 .double [(defaultValue .double), (defaultValue .double), (defaultValue .double), (defaultValue .double), (defaultValue .double)] := (own_Arr.other (own_Arr.ext V46_65 E57) W66 (Ne.symm (Nat.ne_of_lt lt_a1_b46)))
  have lt_b46_b69 : b46 < b69 := Nat.lt_of_lt_of_le V46_77.lt (Nat.le_of_eq g69.symm)
  have V57_78 : own_Arr Z h66 b57 .double [(defaultValue .double), (defaultValue .double), (defaultValue .double), (defaultValue .double), (defaultValue .double)] := (own_Arr.other V57_0 W66 (Ne.symm (Nat.ne_of_lt lt_a1_b57)))
  have lt_b57_b69 : b57 < b69 := Nat.lt_of_lt_of_le V57_78.lt (Nat.le_of_eq g69.symm)
  have g_b69 : n0 ≤ b69 := Nat.le_trans sz66 (Nat.le_of_eq g69.symm)
  have sz69 : n0 ≤ h69.size := Nat.le_trans sz66 E69.1
  have szk_b69 : h0.size ≤ b69 := Nat.le_trans K66.1 (Nat.le_of_eq g69.symm)
  have K69 : Keep h0 h69 [a1] := K66.ext E69
  have V69_0 : own_Arr Z h69 b69 .double [(defaultValue .double), (defaultValue .double), (defaultValue .double), (defaultValue .double), (defaultValue .double)] := A69
  show own_Go p e below _ T69 (mkF m 80 #[.val (.ref a1), .val (.int (4 : Int32))] [(.ref b69), (.ref a1)])
  have F_best_80 : Fld Z h69 a1 "com/example/wayfold/wayfold/engine/DayTiming$Timeline" "best" "[D" .null := (Fld.ext E69 (Fld.other W66 (Fld.ext E57 (Fld.other W54 (Fld.ext E46 (Fld.other W43 (Fld.ext E36 (Fld.other W33 (Fld.ext E27 (Fld.other W24 (Fld.ext E19 (Fld.other W16 (Fld.ext E12 (Fld.other W9 (Fld.ext E6 (Fld.other W3 (Fld.ext E2 F_best) (Or.inr (slot_ne (Or.inr (hw _ (List.mem_of_getElem? (i := 28) rfl))) (Or.inr (hw _ (List.mem_of_getElem? (i := 11) rfl))) (by decide) (t := (.array .double)) (t' := (.array .int)) (by decide) (by decide))))) (Or.inr (slot_ne (Or.inr (hw _ (List.mem_of_getElem? (i := 28) rfl))) (Or.inr (hw _ (List.mem_of_getElem? (i := 14) rfl))) (by decide) (t := (.array .double)) (t' := (.array .double)) (by decide) (by decide))))) (Or.inr (slot_ne (Or.inr (hw _ (List.mem_of_getElem? (i := 28) rfl))) (Or.inr (hw _ (List.mem_of_getElem? (i := 16) rfl))) (by decide) (t := (.array .double)) (t' := (.array .double)) (by decide) (by decide))))) (Or.inr (slot_ne (Or.inr (hw _ (List.mem_of_getElem? (i := 28) rfl))) (Or.inr (hw _ (List.mem_of_getElem? (i := 18) rfl))) (by decide) (t := (.array .double)) (t' := (.array .double)) (by decide) (by decide))))) (Or.inr (slot_ne (Or.inr (hw _ (List.mem_of_getElem? (i := 28) rfl))) (Or.inr (hw _ (List.mem_of_getElem? (i := 20) rfl))) (by decide) (t := (.array .double)) (t' := (.array .double)) (by decide) (by decide))))) (Or.inr (slot_ne (Or.inr (hw _ (List.mem_of_getElem? (i := 28) rfl))) (Or.inr (hw _ (List.mem_of_getElem? (i := 22) rfl))) (by decide) (t := (.array .double)) (t' := (.array .double)) (by decide) (by decide))))) (Or.inr (slot_ne (Or.inr (hw _ (List.mem_of_getElem? (i := 28) rfl))) (Or.inr (hw _ (List.mem_of_getElem? (i := 24) rfl))) (by decide) (t := (.array .double)) (t' := (.array .double)) (by decide) (by decide))))) (Or.inr (slot_ne (Or.inr (hw _ (List.mem_of_getElem? (i := 28) rfl))) (Or.inr (hw _ (List.mem_of_getElem? (i := 26) rfl))) (by decide) (t := (.array .double)) (t' := (.array .double)) (by decide) (by decide)))))
  have E_a1_81 : Exa Z h69 a1 "com/example/wayfold/wayfold/engine/DayTiming$Timeline" := (Exa.ext E69 E_a1_70)
  refine own_putF X69 hx hZ hown (hw _ (List.mem_of_getElem? (i := 27) rfl)) Via.refl e69 F_best_80 E_a1_81 (Or.inr ⟨(hw _ (List.mem_of_getElem? (i := 28) rfl)), rfl, hnm⟩) (hw _ (List.mem_of_getElem? (i := 1) rfl)) (ty := (.array .double)) (by decide) rfl rfl (hb hby d1_80) ?_
  intro T79 h79 X79 e79 W79
  have F79 := Fld.same W79 F_best_80
  have N79 := Fr.snoc X79 N66 g_a1
  have sz79 : n0 ≤ h79.size := Nat.le_trans sz69 (Keep.of_wr W79).1
  have K79 : Keep h0 h79 [a1] := K69.wr W79 (Or.inl (List.mem_cons_self ..))
  show own_Go p e below _ T79 (mkF m 83 #[.val (.ref a1), .val (.int (4 : Int32))] [])
  refine own_retV X79 hx hlk Bd.returns (hb hby d1_83) e79 (by decide) (by decide) ?_
  have E_a1_82 : Exa Z h79 a1 "com/example/wayfold/wayfold/engine/DayTiming$Timeline" := (Exa.wr W79 E_a1_81)
  have F_length_83 : Fld Z h79 a1 "com/example/wayfold/wayfold/engine/DayTiming$Timeline" "length" "I" (.int (0 : Int32)) := (Fld.other W79 (Fld.ext E69 (Fld.other W66 (Fld.ext E57 (Fld.other W54 (Fld.ext E46 (Fld.other W43 (Fld.ext E36 (Fld.other W33 (Fld.ext E27 (Fld.other W24 (Fld.ext E19 (Fld.other W16 (Fld.ext E12 (Fld.other W9 (Fld.ext E6 (Fld.other W3 (Fld.ext E2 F_length) (Or.inr (slot_ne (Or.inl (hw _ (List.mem_of_getElem? (i := 31) rfl))) (Or.inr (hw _ (List.mem_of_getElem? (i := 11) rfl))) (by decide) (t := .int) (t' := (.array .int)) (by decide) (by decide))))) (Or.inr (slot_ne (Or.inl (hw _ (List.mem_of_getElem? (i := 31) rfl))) (Or.inr (hw _ (List.mem_of_getElem? (i := 14) rfl))) (by decide) (t := .int) (t' := (.array .double)) (by decide) (by decide))))) (Or.inr (slot_ne (Or.inl (hw _ (List.mem_of_getElem? (i := 31) rfl))) (Or.inr (hw _ (List.mem_of_getElem? (i := 16) rfl))) (by decide) (t := .int) (t' := (.array .double)) (by decide) (by decide))))) (Or.inr (slot_ne (Or.inl (hw _ (List.mem_of_getElem? (i := 31) rfl))) (Or.inr (hw _ (List.mem_of_getElem? (i := 18) rfl))) (by decide) (t := .int) (t' := (.array .double)) (by decide) (by decide))))) (Or.inr (slot_ne (Or.inl (hw _ (List.mem_of_getElem? (i := 31) rfl))) (Or.inr (hw _ (List.mem_of_getElem? (i := 20) rfl))) (by decide) (t := .int) (t' := (.array .double)) (by decide) (by decide))))) (Or.inr (slot_ne (Or.inl (hw _ (List.mem_of_getElem? (i := 31) rfl))) (Or.inr (hw _ (List.mem_of_getElem? (i := 22) rfl))) (by decide) (t := .int) (t' := (.array .double)) (by decide) (by decide))))) (Or.inr (slot_ne (Or.inl (hw _ (List.mem_of_getElem? (i := 31) rfl))) (Or.inr (hw _ (List.mem_of_getElem? (i := 24) rfl))) (by decide) (t := .int) (t' := (.array .double)) (by decide) (by decide))))) (Or.inr (slot_ne (Or.inl (hw _ (List.mem_of_getElem? (i := 31) rfl))) (Or.inr (hw _ (List.mem_of_getElem? (i := 26) rfl))) (by decide) (t := .int) (t' := (.array .double)) (by decide) (by decide))))) (Or.inr (slot_ne (Or.inl (hw _ (List.mem_of_getElem? (i := 31) rfl))) (Or.inr (hw _ (List.mem_of_getElem? (i := 28) rfl))) (by decide) (t := .int) (t' := (.array .double)) (by decide) (by decide))))
  have F3_84 : Fld Z h79 a1 "com/example/wayfold/wayfold/engine/DayTiming$Timeline" "nodes" "[I" (.ref b2) := (Fld.other W79 (Fld.ext E69 (Fld.other W66 (Fld.ext E57 (Fld.other W54 (Fld.ext E46 (Fld.other W43 (Fld.ext E36 (Fld.other W33 (Fld.ext E27 (Fld.other W24 (Fld.ext E19 (Fld.other W16 (Fld.ext E12 (Fld.other W9 (Fld.ext E6 F3) (Or.inr (slot_ne (Or.inr (hw _ (List.mem_of_getElem? (i := 11) rfl))) (Or.inr (hw _ (List.mem_of_getElem? (i := 14) rfl))) (by decide) (t := (.array .int)) (t' := (.array .double)) (by decide) (by decide))))) (Or.inr (slot_ne (Or.inr (hw _ (List.mem_of_getElem? (i := 11) rfl))) (Or.inr (hw _ (List.mem_of_getElem? (i := 16) rfl))) (by decide) (t := (.array .int)) (t' := (.array .double)) (by decide) (by decide))))) (Or.inr (slot_ne (Or.inr (hw _ (List.mem_of_getElem? (i := 11) rfl))) (Or.inr (hw _ (List.mem_of_getElem? (i := 18) rfl))) (by decide) (t := (.array .int)) (t' := (.array .double)) (by decide) (by decide))))) (Or.inr (slot_ne (Or.inr (hw _ (List.mem_of_getElem? (i := 11) rfl))) (Or.inr (hw _ (List.mem_of_getElem? (i := 20) rfl))) (by decide) (t := (.array .int)) (t' := (.array .double)) (by decide) (by decide))))) (Or.inr (slot_ne (Or.inr (hw _ (List.mem_of_getElem? (i := 11) rfl))) (Or.inr (hw _ (List.mem_of_getElem? (i := 22) rfl))) (by decide) (t := (.array .int)) (t' := (.array .double)) (by decide) (by decide))))) (Or.inr (slot_ne (Or.inr (hw _ (List.mem_of_getElem? (i := 11) rfl))) (Or.inr (hw _ (List.mem_of_getElem? (i := 24) rfl))) (by decide) (t := (.array .int)) (t' := (.array .double)) (by decide) (by decide))))) (Or.inr (slot_ne (Or.inr (hw _ (List.mem_of_getElem? (i := 11) rfl))) (Or.inr (hw _ (List.mem_of_getElem? (i := 26) rfl))) (by decide) (t := (.array .int)) (t' := (.array .double)) (by decide) (by decide))))) (Or.inr (slot_ne (Or.inr (hw _ (List.mem_of_getElem? (i := 11) rfl))) (Or.inr (hw _ (List.mem_of_getElem? (i := 28) rfl))) (by decide) (t := (.array .int)) (t' := (.array .double)) (by decide) (by decide))))
  have V2_85 : own_Arr Z h79 b2 .int [(.int (0 : Int32)), (.int (0 : Int32)), (.int (0 : Int32)), (.int (0 : Int32))] := (own_Arr.other (own_Arr.ext V2_71 E69) W79 (Ne.symm (Nat.ne_of_lt lt_a1_b2)))
  exact ⟨rfl, N79, K79, E_a1_82, F_length_83, b2, szk_b2, F3_84, V2_85⟩
theorem ef_3 (m : MethodId) (a1 : Addr) (a2 : Addr) (p3 : Int32) : entryFrame m #[(.ref a1), (.ref a2), (.int p3)] 5 = mkF m 0 #[.val (.ref a1), .val (.ref a2), .val (.int p3), .unset, .unset] [] := by first | (simp [entryFrame, mkF, argsToLocals, Value.category]; done) | rfl
set_option maxRecDepth 65536 in
set_option maxHeartbeats 40000000 in
theorem rm3 (l : Launch) (Z : State) (a0 : Array Value) (hw : ∀ d ∈ tables_1, d.before a0 Z = true) (ws : List Jvm.Cond) (a1 : Addr) (a2 : Addr) (p3 : Int32) (len : Int32) (b1 : Addr) (r0 : Int32) (r1 : Int32) (r2 : Int32) (r3 : Int32) (m0 : Int32) (m1 : Int32) (m2 : Int32) (m3 : Int32) (h0 : Heap) (n0 : Nat) (Z0 : n0 ≤ h0.size) (F_length : Fld Z h0 a1 "com/example/wayfold/wayfold/engine/DayTiming$Timeline" "length" "I" (.int len)) (F_nodes : Fld Z h0 a1 "com/example/wayfold/wayfold/engine/DayTiming$Timeline" "nodes" "[I" (.ref b1)) (V_b1 : own_Arr Z h0 b1 .int [.int m0, .int m1, .int m2, .int m3]) (V_a2 : own_Arr Z h0 a2 .int [.int r0, .int r1, .int r2, .int r3]) (hle : ¬ 4 < own_min p3 len) :
    MetFree l (⟨"com/example/wayfold/wayfold/engine/DayTiming$Timeline", "shared", "([II)I"⟩ : MethodName) (head1 (Jvm.Cond.code (⟨"com/example/wayfold/wayfold/engine/DayTiming$Timeline", "shared", "([II)I"⟩ : MethodName) prog_4_method_3_code 5 (some .int) :: ws) ({ frames := 1, cells := 0, slots := 0, locals := 13 } : Room)) (fun a U => a = #[(.ref a1), (.ref a2), (.int p3)] ∧ Z.Warmed39 U.vm ∧ U.heap = h0) (fun _ _ _ _ _ => True) (fun _ U o U' => ∃ v L, o = .returned v ∧ Q3 p3 len r0 r1 r2 r3 m0 m1 m2 m3 h0 n0 v U'.heap L ∧ FrameEnd U o U' L ({ frames := 1, cells := 0, slots := 0, locals := 13 } : Room).cells ({ frames := 1, cells := 0, slots := 0, locals := 13 } : Room).slots) := by
  refine MetFree.of_bodySF (plainFor_of_name pn_1) hisR ?_
  intro p e s m args below meth c s₁ Bd hml0 hP hK
  obtain ⟨rfl, hZ, hh⟩ := hP
  have hx := Bd.exec
  have hby := Bd.bytes
  have hml : c.maxLocals = 5 := hml0
  have hown : s.vm.findClass "com/example/wayfold/wayfold/engine/DayTiming$Timeline" = some m.cls := findClass_of_methodNamed Bd.named
  have hnm := (name_of_methodNamed Bd.named Bd.method).1
  have hlk : meth.locks = false := BodyLoose.notSynchronized Bd
  have X0 : Stand p l e ({ frames := 1, cells := 0, slots := 0, locals := 13 } : Room) s m #[(.ref a1), (.ref a2), (.int p3)] below meth c s₁ [] 0 0 := Stand.of_body Bd
  have e0 : s₁.heap = h0 := by rw [← hh, Bd.state]; rfl
  have N0 := Fr.nil n0
  refine own_start (Q := Q3 p3 len r0 r1 r2 r3 m0 m1 m2 m3 h0 n0) (ef_3 m a1 a2 p3) ?_
  show own_Go p e below _ s₁ (mkF m 0 #[.val (.ref a1), .val (.ref a2), .val (.int p3), .unset, .unset] [])
  refine own_by (fun t_ k_ => XS.iloadN X0.here hx rfl (hb hby d3_0) rfl k_) ?_
  show own_Go p e below _ s₁ (mkF m 1 #[.val (.ref a1), .val (.ref a2), .val (.int p3), .unset, .unset] [(.int p3)])
  refine own_by (fun t_ k_ => XS.aloadN X0.here hx rfl (hb hby d3_1) rfl rfl k_) ?_
  show own_Go p e below _ s₁ (mkF m 2 #[.val (.ref a1), .val (.ref a2), .val (.int p3), .unset, .unset] [(.ref a1), (.int p3)])
  refine own_getF X0 hx hZ hown (hw _ (List.mem_of_getElem? (i := 37) rfl)) Via.refl e0 F_length (hb hby d3_2) ?_
  intro T1 X1 e1
  show own_Go p e below _ T1 (mkF m 5 #[.val (.ref a1), .val (.ref a2), .val (.int p3), .unset, .unset] [(.int len), (.int p3)])
  refine own_callS (W := 0) X1 hx hZ (y := (⟨"java/lang/Math", "min", "(II)I"⟩ : MethodName)) hown (hw _ (List.mem_of_getElem? (i := 38) rfl)) (hw _ (List.mem_of_getElem? (i := 39) rfl)) (hw _ (List.mem_of_getElem? (i := 40) rfl)) (hw _ (List.mem_of_getElem? (i := 41) rfl)) (by decide) (by rw [hml]; rfl) (argsL := [(.int p3), (.int len)]) pd_3 rfl (rm4 l Z a0 hw [] p3 len h0 n0 Z0) (by decide) (by decide) (Nat.le_of_eq rfl) (by decide) (by decide) (rest := []) e1 rfl (hb hby d3_5) ?_
  intro v2 T2 L2 X2 hQ2
  obtain ⟨rfl, N2q, e2⟩ := hQ2
  have N2 := Fr.app N0 N2q
  show own_Go p e below _ T2 (mkF m 8 #[.val (.ref a1), .val (.ref a2), .val (.int p3), .unset, .unset] [(.int (own_min p3 len))])
  refine own_by (fun t_ k_ => XS.istoreN X2.here hx rfl (hb hby d3_8) rfl (l' := #[.val (.ref a1), .val (.ref a2), .val (.int p3), .val (.int (own_min p3 len)), .unset]) rfl k_) ?_
  show own_Go p e below _ T2 (mkF m 9 #[.val (.ref a1), .val (.ref a2), .val (.int p3), .val (.int (own_min p3 len)), .unset] [])
  generalize h_mm : (own_min p3 len) = mm
  show own_Go p e below _ T2 (mkF m 9 #[.val (.ref a1), .val (.ref a2), .val (.int p3), .val (.int mm), .unset] [])
  refine own_by (fun t_ k_ => XS.iconst X2.here hx rfl (hb hby d3_9) k_) ?_
  show own_Go p e below _ T2 (mkF m 10 #[.val (.ref a1), .val (.ref a2), .val (.int p3), .val (.int mm), .unset] [(.int (0 : Int32))])
  refine own_by (fun t_ k_ => XS.istore X2.here hx rfl (hb hby d3_10) rfl (l' := #[.val (.ref a1), .val (.ref a2), .val (.int p3), .val (.int mm), .val (.int (0 : Int32))]) rfl k_) ?_
  show own_Go p e below _ T2 (mkF m 12 #[.val (.ref a1), .val (.ref a2), .val (.int p3), .val (.int mm), .val (.int (0 : Int32))] [])
  refine own_by (fun t_ k_ => XS.iload X2.here hx rfl (hb hby d3_12) rfl k_) ?_
  show own_Go p e below _ T2 (mkF m 14 #[.val (.ref a1), .val (.ref a2), .val (.int p3), .val (.int mm), .val (.int (0 : Int32))] [(.int (0 : Int32))])
  refine own_by (fun t_ k_ => XS.iloadN X2.here hx rfl (hb hby d3_14) rfl k_) ?_
  show own_Go p e below _ T2 (mkF m 15 #[.val (.ref a1), .val (.ref a2), .val (.int p3), .val (.int mm), .val (.int (0 : Int32))] [(.int mm), (.int (0 : Int32))])
  refine own_icmp X2 hx 38 (hb hby d3_15) (by decide) (by decide) (fun (hc15 : ¬ (0 : Int32) < mm) => ?_) (fun (hc15 : (0 : Int32) < mm) => ?_)
  · show own_Go p e below _ T2 (mkF m 38 #[.val (.ref a1), .val (.ref a2), .val (.int p3), .val (.int mm), .val (.int (0 : Int32))] [])
    refine own_by (fun t_ k_ => XS.iload X2.here hx rfl (hb hby d3_38) rfl k_) ?_
    show own_Go p e below _ T2 (mkF m 40 #[.val (.ref a1), .val (.ref a2), .val (.int p3), .val (.int mm), .val (.int (0 : Int32))] [(.int (0 : Int32))])
    refine own_retI X2 hx hlk Bd.returns (hb hby d3_40) e2 (by decide) (by decide) ?_
    exact ⟨by rw [h_mm]; simp [own_sh, hc15], N2, rfl⟩
  · show own_Go p e below _ T2 (mkF m 18 #[.val (.ref a1), .val (.ref a2), .val (.int p3), .val (.int mm), .val (.int (0 : Int32))] [])
    refine own_by (fun t_ k_ => XS.aloadN X2.here hx rfl (hb hby d3_18) rfl rfl k_) ?_
    show own_Go p e below _ T2 (mkF m 19 #[.val (.ref a1), .val (.ref a2), .val (.int p3), .val (.int mm), .val (.int (0 : Int32))] [(.ref a2)])
    refine own_by (fun t_ k_ => XS.iload X2.here hx rfl (hb hby d3_19) rfl k_) ?_
    show own_Go p e below _ T2 (mkF m 21 #[.val (.ref a1), .val (.ref a2), .val (.int p3), .val (.int mm), .val (.int (0 : Int32))] [(.int (0 : Int32)), (.ref a2)])
    refine own_iaload X2 hx hZ e2 V_a2 (v := (.int r0)) 0 (by decide) rfl (hb hby d3_21) ?_
    show own_Go p e below _ T2 (mkF m 22 #[.val (.ref a1), .val (.ref a2), .val (.int p3), .val (.int mm), .val (.int (0 : Int32))] [(.int r0)])
    refine own_by (fun t_ k_ => XS.aloadN X2.here hx rfl (hb hby d3_22) rfl rfl k_) ?_
    show own_Go p e below _ T2 (mkF m 23 #[.val (.ref a1), .val (.ref a2), .val (.int p3), .val (.int mm), .val (.int (0 : Int32))] [(.ref a1), (.int r0)])
    refine own_getF X2 hx hZ hown (hw _ (List.mem_of_getElem? (i := 10) rfl)) Via.refl e2 F_nodes (hb hby d3_23) ?_
    intro T3 X3 e3
    show own_Go p e below _ T3 (mkF m 26 #[.val (.ref a1), .val (.ref a2), .val (.int p3), .val (.int mm), .val (.int (0 : Int32))] [(.ref b1), (.int r0)])
    refine own_by (fun t_ k_ => XS.iload X3.here hx rfl (hb hby d3_26) rfl k_) ?_
    show own_Go p e below _ T3 (mkF m 28 #[.val (.ref a1), .val (.ref a2), .val (.int p3), .val (.int mm), .val (.int (0 : Int32))] [(.int (0 : Int32)), (.ref b1), (.int r0)])
    refine own_iaload X3 hx hZ e3 V_b1 (v := (.int m0)) 0 (by decide) rfl (hb hby d3_28) ?_
    show own_Go p e below _ T3 (mkF m 29 #[.val (.ref a1), .val (.ref a2), .val (.int p3), .val (.int mm), .val (.int (0 : Int32))] [(.int m0), (.int r0)])
    refine own_icmp X3 hx 38 (hb hby d3_29) (by decide) (by decide) (fun (hc29 : ¬ r0 = m0) => ?_) (fun (hc29 : r0 = m0) => ?_)
    · show own_Go p e below _ T3 (mkF m 38 #[.val (.ref a1), .val (.ref a2), .val (.int p3), .val (.int mm), .val (.int (0 : Int32))] [])
      refine own_by (fun t_ k_ => XS.iload X3.here hx rfl (hb hby d3_38) rfl k_) ?_
      show own_Go p e below _ T3 (mkF m 40 #[.val (.ref a1), .val (.ref a2), .val (.int p3), .val (.int mm), .val (.int (0 : Int32))] [(.int (0 : Int32))])
      refine own_retI X3 hx hlk Bd.returns (hb hby d3_40) e3 (by decide) (by decide) ?_
      exact ⟨by rw [h_mm]; simp [own_sh, hc15, hc29], N2, rfl⟩
    · show own_Go p e below _ T3 (mkF m 32 #[.val (.ref a1), .val (.ref a2), .val (.int p3), .val (.int mm), .val (.int (0 : Int32))] [])
      refine own_by (fun t_ k_ => XS.iinc X3.here hx rfl (hb hby d3_32) rfl (l' := #[.val (.ref a1), .val (.ref a2), .val (.int p3), .val (.int mm), .val (.int (1 : Int32))]) rfl k_) ?_
      show own_Go p e below _ T3 (mkF m 35 #[.val (.ref a1), .val (.ref a2), .val (.int p3), .val (.int mm), .val (.int (1 : Int32))] [])
      refine own_by (fun t_ k_ => XS.goto X3.here hx rfl (pc0 := 35) (pc' := 12) rfl (hb hby d3_35) (by decide) (by decide) k_) ?_
      show own_Go p e below _ T3 (mkF m 12 #[.val (.ref a1), .val (.ref a2), .val (.int p3), .val (.int mm), .val (.int (1 : Int32))] [])
      refine own_by (fun t_ k_ => XS.iload X3.here hx rfl (hb hby d3_12) rfl k_) ?_
      show own_Go p e below _ T3 (mkF m 14 #[.val (.ref a1), .val (.ref a2), .val (.int p3), .val (.int mm), .val (.int (1 : Int32))] [(.int (1 : Int32))])
      refine own_by (fun t_ k_ => XS.iloadN X3.here hx rfl (hb hby d3_14) rfl k_) ?_
      show own_Go p e below _ T3 (mkF m 15 #[.val (.ref a1), .val (.ref a2), .val (.int p3), .val (.int mm), .val (.int (1 : Int32))] [(.int mm), (.int (1 : Int32))])
      refine own_icmp X3 hx 38 (hb hby d3_15) (by decide) (by decide) (fun (hc15' : ¬ (1 : Int32) < mm) => ?_) (fun (hc15' : (1 : Int32) < mm) => ?_)
      · show own_Go p e below _ T3 (mkF m 38 #[.val (.ref a1), .val (.ref a2), .val (.int p3), .val (.int mm), .val (.int (1 : Int32))] [])
        refine own_by (fun t_ k_ => XS.iload X3.here hx rfl (hb hby d3_38) rfl k_) ?_
        show own_Go p e below _ T3 (mkF m 40 #[.val (.ref a1), .val (.ref a2), .val (.int p3), .val (.int mm), .val (.int (1 : Int32))] [(.int (1 : Int32))])
        refine own_retI X3 hx hlk Bd.returns (hb hby d3_40) e3 (by decide) (by decide) ?_
        exact ⟨by rw [h_mm]; simp [own_sh, hc15, hc29, hc15'], N2, rfl⟩
      · show own_Go p e below _ T3 (mkF m 18 #[.val (.ref a1), .val (.ref a2), .val (.int p3), .val (.int mm), .val (.int (1 : Int32))] [])
        refine own_by (fun t_ k_ => XS.aloadN X3.here hx rfl (hb hby d3_18) rfl rfl k_) ?_
        show own_Go p e below _ T3 (mkF m 19 #[.val (.ref a1), .val (.ref a2), .val (.int p3), .val (.int mm), .val (.int (1 : Int32))] [(.ref a2)])
        refine own_by (fun t_ k_ => XS.iload X3.here hx rfl (hb hby d3_19) rfl k_) ?_
        show own_Go p e below _ T3 (mkF m 21 #[.val (.ref a1), .val (.ref a2), .val (.int p3), .val (.int mm), .val (.int (1 : Int32))] [(.int (1 : Int32)), (.ref a2)])
        refine own_iaload X3 hx hZ e3 V_a2 (v := (.int r1)) 1 (by decide) rfl (hb hby d3_21) ?_
        show own_Go p e below _ T3 (mkF m 22 #[.val (.ref a1), .val (.ref a2), .val (.int p3), .val (.int mm), .val (.int (1 : Int32))] [(.int r1)])
        refine own_by (fun t_ k_ => XS.aloadN X3.here hx rfl (hb hby d3_22) rfl rfl k_) ?_
        show own_Go p e below _ T3 (mkF m 23 #[.val (.ref a1), .val (.ref a2), .val (.int p3), .val (.int mm), .val (.int (1 : Int32))] [(.ref a1), (.int r1)])
        refine own_getF X3 hx hZ hown (hw _ (List.mem_of_getElem? (i := 10) rfl)) Via.refl e3 F_nodes (hb hby d3_23) ?_
        intro T4 X4 e4
        show own_Go p e below _ T4 (mkF m 26 #[.val (.ref a1), .val (.ref a2), .val (.int p3), .val (.int mm), .val (.int (1 : Int32))] [(.ref b1), (.int r1)])
        refine own_by (fun t_ k_ => XS.iload X4.here hx rfl (hb hby d3_26) rfl k_) ?_
        show own_Go p e below _ T4 (mkF m 28 #[.val (.ref a1), .val (.ref a2), .val (.int p3), .val (.int mm), .val (.int (1 : Int32))] [(.int (1 : Int32)), (.ref b1), (.int r1)])
        refine own_iaload X4 hx hZ e4 V_b1 (v := (.int m1)) 1 (by decide) rfl (hb hby d3_28) ?_
        show own_Go p e below _ T4 (mkF m 29 #[.val (.ref a1), .val (.ref a2), .val (.int p3), .val (.int mm), .val (.int (1 : Int32))] [(.int m1), (.int r1)])
        refine own_icmp X4 hx 38 (hb hby d3_29) (by decide) (by decide) (fun (hc29' : ¬ r1 = m1) => ?_) (fun (hc29' : r1 = m1) => ?_)
        · show own_Go p e below _ T4 (mkF m 38 #[.val (.ref a1), .val (.ref a2), .val (.int p3), .val (.int mm), .val (.int (1 : Int32))] [])
          refine own_by (fun t_ k_ => XS.iload X4.here hx rfl (hb hby d3_38) rfl k_) ?_
          show own_Go p e below _ T4 (mkF m 40 #[.val (.ref a1), .val (.ref a2), .val (.int p3), .val (.int mm), .val (.int (1 : Int32))] [(.int (1 : Int32))])
          refine own_retI X4 hx hlk Bd.returns (hb hby d3_40) e4 (by decide) (by decide) ?_
          exact ⟨by rw [h_mm]; simp [own_sh, hc15, hc29, hc15', hc29'], N2, rfl⟩
        · show own_Go p e below _ T4 (mkF m 32 #[.val (.ref a1), .val (.ref a2), .val (.int p3), .val (.int mm), .val (.int (1 : Int32))] [])
          refine own_by (fun t_ k_ => XS.iinc X4.here hx rfl (hb hby d3_32) rfl (l' := #[.val (.ref a1), .val (.ref a2), .val (.int p3), .val (.int mm), .val (.int (2 : Int32))]) rfl k_) ?_
          show own_Go p e below _ T4 (mkF m 35 #[.val (.ref a1), .val (.ref a2), .val (.int p3), .val (.int mm), .val (.int (2 : Int32))] [])
          refine own_by (fun t_ k_ => XS.goto X4.here hx rfl (pc0 := 35) (pc' := 12) rfl (hb hby d3_35) (by decide) (by decide) k_) ?_
          show own_Go p e below _ T4 (mkF m 12 #[.val (.ref a1), .val (.ref a2), .val (.int p3), .val (.int mm), .val (.int (2 : Int32))] [])
          refine own_by (fun t_ k_ => XS.iload X4.here hx rfl (hb hby d3_12) rfl k_) ?_
          show own_Go p e below _ T4 (mkF m 14 #[.val (.ref a1), .val (.ref a2), .val (.int p3), .val (.int mm), .val (.int (2 : Int32))] [(.int (2 : Int32))])
          refine own_by (fun t_ k_ => XS.iloadN X4.here hx rfl (hb hby d3_14) rfl k_) ?_
          show own_Go p e below _ T4 (mkF m 15 #[.val (.ref a1), .val (.ref a2), .val (.int p3), .val (.int mm), .val (.int (2 : Int32))] [(.int mm), (.int (2 : Int32))])
          refine own_icmp X4 hx 38 (hb hby d3_15) (by decide) (by decide) (fun (hc15'' : ¬ (2 : Int32) < mm) => ?_) (fun (hc15'' : (2 : Int32) < mm) => ?_)
          · show own_Go p e below _ T4 (mkF m 38 #[.val (.ref a1), .val (.ref a2), .val (.int p3), .val (.int mm), .val (.int (2 : Int32))] [])
            refine own_by (fun t_ k_ => XS.iload X4.here hx rfl (hb hby d3_38) rfl k_) ?_
            show own_Go p e below _ T4 (mkF m 40 #[.val (.ref a1), .val (.ref a2), .val (.int p3), .val (.int mm), .val (.int (2 : Int32))] [(.int (2 : Int32))])
            refine own_retI X4 hx hlk Bd.returns (hb hby d3_40) e4 (by decide) (by decide) ?_
            exact ⟨by rw [h_mm]; simp [own_sh, hc15, hc29, hc15', hc29', hc15''], N2, rfl⟩
          · show own_Go p e below _ T4 (mkF m 18 #[.val (.ref a1), .val (.ref a2), .val (.int p3), .val (.int mm), .val (.int (2 : Int32))] [])
            refine own_by (fun t_ k_ => XS.aloadN X4.here hx rfl (hb hby d3_18) rfl rfl k_) ?_
            show own_Go p e below _ T4 (mkF m 19 #[.val (.ref a1), .val (.ref a2), .val (.int p3), .val (.int mm), .val (.int (2 : Int32))] [(.ref a2)])
            refine own_by (fun t_ k_ => XS.iload X4.here hx rfl (hb hby d3_19) rfl k_) ?_
            show own_Go p e below _ T4 (mkF m 21 #[.val (.ref a1), .val (.ref a2), .val (.int p3), .val (.int mm), .val (.int (2 : Int32))] [(.int (2 : Int32)), (.ref a2)])
            refine own_iaload X4 hx hZ e4 V_a2 (v := (.int r2)) 2 (by decide) rfl (hb hby d3_21) ?_
            show own_Go p e below _ T4 (mkF m 22 #[.val (.ref a1), .val (.ref a2), .val (.int p3), .val (.int mm), .val (.int (2 : Int32))] [(.int r2)])
            refine own_by (fun t_ k_ => XS.aloadN X4.here hx rfl (hb hby d3_22) rfl rfl k_) ?_
            show own_Go p e below _ T4 (mkF m 23 #[.val (.ref a1), .val (.ref a2), .val (.int p3), .val (.int mm), .val (.int (2 : Int32))] [(.ref a1), (.int r2)])
            refine own_getF X4 hx hZ hown (hw _ (List.mem_of_getElem? (i := 10) rfl)) Via.refl e4 F_nodes (hb hby d3_23) ?_
            intro T5 X5 e5
            show own_Go p e below _ T5 (mkF m 26 #[.val (.ref a1), .val (.ref a2), .val (.int p3), .val (.int mm), .val (.int (2 : Int32))] [(.ref b1), (.int r2)])
            refine own_by (fun t_ k_ => XS.iload X5.here hx rfl (hb hby d3_26) rfl k_) ?_
            show own_Go p e below _ T5 (mkF m 28 #[.val (.ref a1), .val (.ref a2), .val (.int p3), .val (.int mm), .val (.int (2 : Int32))] [(.int (2 : Int32)), (.ref b1), (.int r2)])
            refine own_iaload X5 hx hZ e5 V_b1 (v := (.int m2)) 2 (by decide) rfl (hb hby d3_28) ?_
            show own_Go p e below _ T5 (mkF m 29 #[.val (.ref a1), .val (.ref a2), .val (.int p3), .val (.int mm), .val (.int (2 : Int32))] [(.int m2), (.int r2)])
            refine own_icmp X5 hx 38 (hb hby d3_29) (by decide) (by decide) (fun (hc29'' : ¬ r2 = m2) => ?_) (fun (hc29'' : r2 = m2) => ?_)
            · show own_Go p e below _ T5 (mkF m 38 #[.val (.ref a1), .val (.ref a2), .val (.int p3), .val (.int mm), .val (.int (2 : Int32))] [])
              refine own_by (fun t_ k_ => XS.iload X5.here hx rfl (hb hby d3_38) rfl k_) ?_
              show own_Go p e below _ T5 (mkF m 40 #[.val (.ref a1), .val (.ref a2), .val (.int p3), .val (.int mm), .val (.int (2 : Int32))] [(.int (2 : Int32))])
              refine own_retI X5 hx hlk Bd.returns (hb hby d3_40) e5 (by decide) (by decide) ?_
              exact ⟨by rw [h_mm]; simp [own_sh, hc15, hc29, hc15', hc29', hc15'', hc29''], N2, rfl⟩
            · show own_Go p e below _ T5 (mkF m 32 #[.val (.ref a1), .val (.ref a2), .val (.int p3), .val (.int mm), .val (.int (2 : Int32))] [])
              refine own_by (fun t_ k_ => XS.iinc X5.here hx rfl (hb hby d3_32) rfl (l' := #[.val (.ref a1), .val (.ref a2), .val (.int p3), .val (.int mm), .val (.int (3 : Int32))]) rfl k_) ?_
              show own_Go p e below _ T5 (mkF m 35 #[.val (.ref a1), .val (.ref a2), .val (.int p3), .val (.int mm), .val (.int (3 : Int32))] [])
              refine own_by (fun t_ k_ => XS.goto X5.here hx rfl (pc0 := 35) (pc' := 12) rfl (hb hby d3_35) (by decide) (by decide) k_) ?_
              show own_Go p e below _ T5 (mkF m 12 #[.val (.ref a1), .val (.ref a2), .val (.int p3), .val (.int mm), .val (.int (3 : Int32))] [])
              refine own_by (fun t_ k_ => XS.iload X5.here hx rfl (hb hby d3_12) rfl k_) ?_
              show own_Go p e below _ T5 (mkF m 14 #[.val (.ref a1), .val (.ref a2), .val (.int p3), .val (.int mm), .val (.int (3 : Int32))] [(.int (3 : Int32))])
              refine own_by (fun t_ k_ => XS.iloadN X5.here hx rfl (hb hby d3_14) rfl k_) ?_
              show own_Go p e below _ T5 (mkF m 15 #[.val (.ref a1), .val (.ref a2), .val (.int p3), .val (.int mm), .val (.int (3 : Int32))] [(.int mm), (.int (3 : Int32))])
              refine own_icmp X5 hx 38 (hb hby d3_15) (by decide) (by decide) (fun (hc15''' : ¬ (3 : Int32) < mm) => ?_) (fun (hc15''' : (3 : Int32) < mm) => ?_)
              · show own_Go p e below _ T5 (mkF m 38 #[.val (.ref a1), .val (.ref a2), .val (.int p3), .val (.int mm), .val (.int (3 : Int32))] [])
                refine own_by (fun t_ k_ => XS.iload X5.here hx rfl (hb hby d3_38) rfl k_) ?_
                show own_Go p e below _ T5 (mkF m 40 #[.val (.ref a1), .val (.ref a2), .val (.int p3), .val (.int mm), .val (.int (3 : Int32))] [(.int (3 : Int32))])
                refine own_retI X5 hx hlk Bd.returns (hb hby d3_40) e5 (by decide) (by decide) ?_
                exact ⟨by rw [h_mm]; simp [own_sh, hc15, hc29, hc15', hc29', hc15'', hc29'', hc15'''], N2, rfl⟩
              · show own_Go p e below _ T5 (mkF m 18 #[.val (.ref a1), .val (.ref a2), .val (.int p3), .val (.int mm), .val (.int (3 : Int32))] [])
                refine own_by (fun t_ k_ => XS.aloadN X5.here hx rfl (hb hby d3_18) rfl rfl k_) ?_
                show own_Go p e below _ T5 (mkF m 19 #[.val (.ref a1), .val (.ref a2), .val (.int p3), .val (.int mm), .val (.int (3 : Int32))] [(.ref a2)])
                refine own_by (fun t_ k_ => XS.iload X5.here hx rfl (hb hby d3_19) rfl k_) ?_
                show own_Go p e below _ T5 (mkF m 21 #[.val (.ref a1), .val (.ref a2), .val (.int p3), .val (.int mm), .val (.int (3 : Int32))] [(.int (3 : Int32)), (.ref a2)])
                refine own_iaload X5 hx hZ e5 V_a2 (v := (.int r3)) 3 (by decide) rfl (hb hby d3_21) ?_
                show own_Go p e below _ T5 (mkF m 22 #[.val (.ref a1), .val (.ref a2), .val (.int p3), .val (.int mm), .val (.int (3 : Int32))] [(.int r3)])
                refine own_by (fun t_ k_ => XS.aloadN X5.here hx rfl (hb hby d3_22) rfl rfl k_) ?_
                show own_Go p e below _ T5 (mkF m 23 #[.val (.ref a1), .val (.ref a2), .val (.int p3), .val (.int mm), .val (.int (3 : Int32))] [(.ref a1), (.int r3)])
                refine own_getF X5 hx hZ hown (hw _ (List.mem_of_getElem? (i := 10) rfl)) Via.refl e5 F_nodes (hb hby d3_23) ?_
                intro T6 X6 e6
                show own_Go p e below _ T6 (mkF m 26 #[.val (.ref a1), .val (.ref a2), .val (.int p3), .val (.int mm), .val (.int (3 : Int32))] [(.ref b1), (.int r3)])
                refine own_by (fun t_ k_ => XS.iload X6.here hx rfl (hb hby d3_26) rfl k_) ?_
                show own_Go p e below _ T6 (mkF m 28 #[.val (.ref a1), .val (.ref a2), .val (.int p3), .val (.int mm), .val (.int (3 : Int32))] [(.int (3 : Int32)), (.ref b1), (.int r3)])
                refine own_iaload X6 hx hZ e6 V_b1 (v := (.int m3)) 3 (by decide) rfl (hb hby d3_28) ?_
                show own_Go p e below _ T6 (mkF m 29 #[.val (.ref a1), .val (.ref a2), .val (.int p3), .val (.int mm), .val (.int (3 : Int32))] [(.int m3), (.int r3)])
                refine own_icmp X6 hx 38 (hb hby d3_29) (by decide) (by decide) (fun (hc29''' : ¬ r3 = m3) => ?_) (fun (hc29''' : r3 = m3) => ?_)
                · show own_Go p e below _ T6 (mkF m 38 #[.val (.ref a1), .val (.ref a2), .val (.int p3), .val (.int mm), .val (.int (3 : Int32))] [])
                  refine own_by (fun t_ k_ => XS.iload X6.here hx rfl (hb hby d3_38) rfl k_) ?_
                  show own_Go p e below _ T6 (mkF m 40 #[.val (.ref a1), .val (.ref a2), .val (.int p3), .val (.int mm), .val (.int (3 : Int32))] [(.int (3 : Int32))])
                  refine own_retI X6 hx hlk Bd.returns (hb hby d3_40) e6 (by decide) (by decide) ?_
                  exact ⟨by rw [h_mm]; simp [own_sh, hc15, hc29, hc15', hc29', hc15'', hc29'', hc15''', hc29'''], N2, rfl⟩
                · show own_Go p e below _ T6 (mkF m 32 #[.val (.ref a1), .val (.ref a2), .val (.int p3), .val (.int mm), .val (.int (3 : Int32))] [])
                  refine own_by (fun t_ k_ => XS.iinc X6.here hx rfl (hb hby d3_32) rfl (l' := #[.val (.ref a1), .val (.ref a2), .val (.int p3), .val (.int mm), .val (.int (4 : Int32))]) rfl k_) ?_
                  show own_Go p e below _ T6 (mkF m 35 #[.val (.ref a1), .val (.ref a2), .val (.int p3), .val (.int mm), .val (.int (4 : Int32))] [])
                  refine own_by (fun t_ k_ => XS.goto X6.here hx rfl (pc0 := 35) (pc' := 12) rfl (hb hby d3_35) (by decide) (by decide) k_) ?_
                  show own_Go p e below _ T6 (mkF m 12 #[.val (.ref a1), .val (.ref a2), .val (.int p3), .val (.int mm), .val (.int (4 : Int32))] [])
                  refine own_by (fun t_ k_ => XS.iload X6.here hx rfl (hb hby d3_12) rfl k_) ?_
                  show own_Go p e below _ T6 (mkF m 14 #[.val (.ref a1), .val (.ref a2), .val (.int p3), .val (.int mm), .val (.int (4 : Int32))] [(.int (4 : Int32))])
                  refine own_by (fun t_ k_ => XS.iloadN X6.here hx rfl (hb hby d3_14) rfl k_) ?_
                  show own_Go p e below _ T6 (mkF m 15 #[.val (.ref a1), .val (.ref a2), .val (.int p3), .val (.int mm), .val (.int (4 : Int32))] [(.int mm), (.int (4 : Int32))])
                  refine own_icmp X6 hx 38 (hb hby d3_15) (by decide) (by decide) (fun (hc15'''' : ¬ (4 : Int32) < mm) => ?_) (fun (hc15'''' : (4 : Int32) < mm) => ?_)
                  · show own_Go p e below _ T6 (mkF m 38 #[.val (.ref a1), .val (.ref a2), .val (.int p3), .val (.int mm), .val (.int (4 : Int32))] [])
                    refine own_by (fun t_ k_ => XS.iload X6.here hx rfl (hb hby d3_38) rfl k_) ?_
                    show own_Go p e below _ T6 (mkF m 40 #[.val (.ref a1), .val (.ref a2), .val (.int p3), .val (.int mm), .val (.int (4 : Int32))] [(.int (4 : Int32))])
                    refine own_retI X6 hx hlk Bd.returns (hb hby d3_40) e6 (by decide) (by decide) ?_
                    exact ⟨by rw [h_mm]; simp [own_sh, hc15, hc29, hc15', hc29', hc15'', hc29'', hc15''', hc29''', hc15''''], N2, rfl⟩
                  · exact absurd hc15'''' (h_mm ▸ hle)
theorem ef_0 (m : MethodId) (p1 : Int32) (p2 : Int32) (p3 : Int32) (p4 : Int32) (p5 : Int32) : entryFrame m #[(.int p1), (.int p2), (.int p3), (.int p4), (.int p5)] maxLocals = mkF m 0 #[.val (.int p1), .val (.int p2), .val (.int p3), .val (.int p4), .val (.int p5), .unset, .unset, .unset, .unset, .unset, .unset, .unset, .unset, .unset, .unset, .unset] [] := by first | (simp [entryFrame, mkF, argsToLocals, Value.category, maxLocals]; done) | rfl
set_option maxRecDepth 65536 in
set_option maxHeartbeats 40000000 in
theorem rm0 (l : Launch) (Z : State) (a0 : Array Value) (hw : ∀ d ∈ tables_1, d.before a0 Z = true) (ws : List Jvm.Cond) (p1 : Int32) (p2 : Int32) (p3 : Int32) (p4 : Int32) (p5 : Int32) (h0 : Heap) (n0 : Nat) (Z0 : n0 ≤ h0.size) :
    MetFree l x (head1 (Jvm.Cond.code x code maxLocals ret :: ws) room_1) (fun a U => a = #[(.int p1), (.int p2), (.int p3), (.int p4), (.int p5)] ∧ Z.Warmed39 U.vm ∧ U.heap = h0) (fun _ _ _ _ _ => True) (fun _ U o U' => ∃ v L, o = .returned v ∧ Q0 n0 v U'.heap L ∧ FrameEnd U o U' L room_1.cells room_1.slots) := by
  refine MetFree.of_bodySF (plainFor_of_name pn_0) hisR ?_
  intro p e s m args below meth c s₁ Bd hml0 hP hK
  obtain ⟨rfl, hZ, hh⟩ := hP
  have hx := Bd.exec
  have hby := Bd.bytes
  have hml : c.maxLocals = 16 := hml0
  have hown : s.vm.findClass "com/example/wayfold/wayfold/engine/TimelineSharedPinLaw" = some m.cls := findClass_of_methodNamed Bd.named
  have hnm := (name_of_methodNamed Bd.named Bd.method).1
  have hlk : meth.locks = false := BodyLoose.notSynchronized Bd
  have X0 : Stand p l e room_1 s m #[(.int p1), (.int p2), (.int p3), (.int p4), (.int p5)] below meth c s₁ [] 0 0 := Stand.of_body Bd
  have e0 : s₁.heap = h0 := by rw [← hh, Bd.state]; rfl
  have N0 := Fr.nil n0
  refine own_start (Q := Q0 n0) (ef_0 m p1 p2 p3 p4 p5) ?_
  show own_Go p e below _ s₁ (mkF m 0 #[.val (.int p1), .val (.int p2), .val (.int p3), .val (.int p4), .val (.int p5), .unset, .unset, .unset, .unset, .unset, .unset, .unset, .unset, .unset, .unset, .unset] [])
  refine own_by (fun t_ k_ => XS.iload X0.here hx rfl (hb hby at_0) rfl k_) ?_
  show own_Go p e below _ s₁ (mkF m 2 #[.val (.int p1), .val (.int p2), .val (.int p3), .val (.int p4), .val (.int p5), .unset, .unset, .unset, .unset, .unset, .unset, .unset, .unset, .unset, .unset, .unset] [(.int p5)])
  refine own_by (fun t_ k_ => XS.iconst X0.here hx rfl (hb hby at_2) k_) ?_
  show own_Go p e below _ s₁ (mkF m 3 #[.val (.int p1), .val (.int p2), .val (.int p3), .val (.int p4), .val (.int p5), .unset, .unset, .unset, .unset, .unset, .unset, .unset, .unset, .unset, .unset, .unset] [(.int (3 : Int32)), (.int p5)])
  refine own_by (fun t_ k_ => XS.iand X0.here hx rfl (hb hby at_3) rfl k_) ?_
  show own_Go p e below _ s₁ (mkF m 4 #[.val (.int p1), .val (.int p2), .val (.int p3), .val (.int p4), .val (.int p5), .unset, .unset, .unset, .unset, .unset, .unset, .unset, .unset, .unset, .unset, .unset] [(.int (p5 &&& (3 : Int32)))])
  refine own_by (fun t_ k_ => XS.istore X0.here hx rfl (hb hby at_4) rfl (l' := #[.val (.int p1), .val (.int p2), .val (.int p3), .val (.int p4), .val (.int p5), .val (.int (p5 &&& (3 : Int32))), .unset, .unset, .unset, .unset, .unset, .unset, .unset, .unset, .unset, .unset]) rfl k_) ?_
  show own_Go p e below _ s₁ (mkF m 6 #[.val (.int p1), .val (.int p2), .val (.int p3), .val (.int p4), .val (.int p5), .val (.int (p5 &&& (3 : Int32))), .unset, .unset, .unset, .unset, .unset, .unset, .unset, .unset, .unset, .unset] [])
  generalize h_d0 : (p5 &&& (3 : Int32)) = d0
  show own_Go p e below _ s₁ (mkF m 6 #[.val (.int p1), .val (.int p2), .val (.int p3), .val (.int p4), .val (.int p5), .val (.int d0), .unset, .unset, .unset, .unset, .unset, .unset, .unset, .unset, .unset, .unset] [])
  refine own_by (fun t_ k_ => XS.iload X0.here hx rfl (hb hby at_6) rfl k_) ?_
  show own_Go p e below _ s₁ (mkF m 8 #[.val (.int p1), .val (.int p2), .val (.int p3), .val (.int p4), .val (.int p5), .val (.int d0), .unset, .unset, .unset, .unset, .unset, .unset, .unset, .unset, .unset, .unset] [(.int p5)])
  refine own_by (fun t_ k_ => XS.iconst X0.here hx rfl (hb hby at_8) k_) ?_
  show own_Go p e below _ s₁ (mkF m 9 #[.val (.int p1), .val (.int p2), .val (.int p3), .val (.int p4), .val (.int p5), .val (.int d0), .unset, .unset, .unset, .unset, .unset, .unset, .unset, .unset, .unset, .unset] [(.int (2 : Int32)), (.int p5)])
  refine own_by (fun t_ k_ => XT.ishr X0.here hx rfl (hb hby at_9) rfl k_) ?_
  show own_Go p e below _ s₁ (mkF m 10 #[.val (.int p1), .val (.int p2), .val (.int p3), .val (.int p4), .val (.int p5), .val (.int d0), .unset, .unset, .unset, .unset, .unset, .unset, .unset, .unset, .unset, .unset] [(.int (p5 >>> ((2 : Int32) &&& 31)))])
  refine own_by (fun t_ k_ => XS.iconst X0.here hx rfl (hb hby at_10) k_) ?_
  show own_Go p e below _ s₁ (mkF m 11 #[.val (.int p1), .val (.int p2), .val (.int p3), .val (.int p4), .val (.int p5), .val (.int d0), .unset, .unset, .unset, .unset, .unset, .unset, .unset, .unset, .unset, .unset] [(.int (3 : Int32)), (.int (p5 >>> ((2 : Int32) &&& 31)))])
  refine own_by (fun t_ k_ => XS.iand X0.here hx rfl (hb hby at_11) rfl k_) ?_
  show own_Go p e below _ s₁ (mkF m 12 #[.val (.int p1), .val (.int p2), .val (.int p3), .val (.int p4), .val (.int p5), .val (.int d0), .unset, .unset, .unset, .unset, .unset, .unset, .unset, .unset, .unset, .unset] [(.int ((p5 >>> ((2 : Int32) &&& 31)) &&& (3 : Int32)))])
  refine own_by (fun t_ k_ => XS.istore X0.here hx rfl (hb hby at_12) rfl (l' := #[.val (.int p1), .val (.int p2), .val (.int p3), .val (.int p4), .val (.int p5), .val (.int d0), .val (.int ((p5 >>> ((2 : Int32) &&& 31)) &&& (3 : Int32))), .unset, .unset, .unset, .unset, .unset, .unset, .unset, .unset, .unset]) rfl k_) ?_
  show own_Go p e below _ s₁ (mkF m 14 #[.val (.int p1), .val (.int p2), .val (.int p3), .val (.int p4), .val (.int p5), .val (.int d0), .val (.int ((p5 >>> ((2 : Int32) &&& 31)) &&& (3 : Int32))), .unset, .unset, .unset, .unset, .unset, .unset, .unset, .unset, .unset] [])
  generalize h_d1 : ((p5 >>> ((2 : Int32) &&& 31)) &&& (3 : Int32)) = d1
  show own_Go p e below _ s₁ (mkF m 14 #[.val (.int p1), .val (.int p2), .val (.int p3), .val (.int p4), .val (.int p5), .val (.int d0), .val (.int d1), .unset, .unset, .unset, .unset, .unset, .unset, .unset, .unset, .unset] [])
  refine own_by (fun t_ k_ => XS.iload X0.here hx rfl (hb hby at_14) rfl k_) ?_
  show own_Go p e below _ s₁ (mkF m 16 #[.val (.int p1), .val (.int p2), .val (.int p3), .val (.int p4), .val (.int p5), .val (.int d0), .val (.int d1), .unset, .unset, .unset, .unset, .unset, .unset, .unset, .unset, .unset] [(.int p5)])
  refine own_by (fun t_ k_ => XS.iconst X0.here hx rfl (hb hby at_16) k_) ?_
  show own_Go p e below _ s₁ (mkF m 17 #[.val (.int p1), .val (.int p2), .val (.int p3), .val (.int p4), .val (.int p5), .val (.int d0), .val (.int d1), .unset, .unset, .unset, .unset, .unset, .unset, .unset, .unset, .unset] [(.int (4 : Int32)), (.int p5)])
  refine own_by (fun t_ k_ => XT.ishr X0.here hx rfl (hb hby at_17) rfl k_) ?_
  show own_Go p e below _ s₁ (mkF m 18 #[.val (.int p1), .val (.int p2), .val (.int p3), .val (.int p4), .val (.int p5), .val (.int d0), .val (.int d1), .unset, .unset, .unset, .unset, .unset, .unset, .unset, .unset, .unset] [(.int (p5 >>> ((4 : Int32) &&& 31)))])
  refine own_by (fun t_ k_ => XS.iconst X0.here hx rfl (hb hby at_18) k_) ?_
  show own_Go p e below _ s₁ (mkF m 19 #[.val (.int p1), .val (.int p2), .val (.int p3), .val (.int p4), .val (.int p5), .val (.int d0), .val (.int d1), .unset, .unset, .unset, .unset, .unset, .unset, .unset, .unset, .unset] [(.int (3 : Int32)), (.int (p5 >>> ((4 : Int32) &&& 31)))])
  refine own_by (fun t_ k_ => XS.iand X0.here hx rfl (hb hby at_19) rfl k_) ?_
  show own_Go p e below _ s₁ (mkF m 20 #[.val (.int p1), .val (.int p2), .val (.int p3), .val (.int p4), .val (.int p5), .val (.int d0), .val (.int d1), .unset, .unset, .unset, .unset, .unset, .unset, .unset, .unset, .unset] [(.int ((p5 >>> ((4 : Int32) &&& 31)) &&& (3 : Int32)))])
  refine own_by (fun t_ k_ => XS.istore X0.here hx rfl (hb hby at_20) rfl (l' := #[.val (.int p1), .val (.int p2), .val (.int p3), .val (.int p4), .val (.int p5), .val (.int d0), .val (.int d1), .val (.int ((p5 >>> ((4 : Int32) &&& 31)) &&& (3 : Int32))), .unset, .unset, .unset, .unset, .unset, .unset, .unset, .unset]) rfl k_) ?_
  show own_Go p e below _ s₁ (mkF m 22 #[.val (.int p1), .val (.int p2), .val (.int p3), .val (.int p4), .val (.int p5), .val (.int d0), .val (.int d1), .val (.int ((p5 >>> ((4 : Int32) &&& 31)) &&& (3 : Int32))), .unset, .unset, .unset, .unset, .unset, .unset, .unset, .unset] [])
  generalize h_d2 : ((p5 >>> ((4 : Int32) &&& 31)) &&& (3 : Int32)) = d2
  show own_Go p e below _ s₁ (mkF m 22 #[.val (.int p1), .val (.int p2), .val (.int p3), .val (.int p4), .val (.int p5), .val (.int d0), .val (.int d1), .val (.int d2), .unset, .unset, .unset, .unset, .unset, .unset, .unset, .unset] [])
  refine own_by (fun t_ k_ => XS.iload X0.here hx rfl (hb hby at_22) rfl k_) ?_
  show own_Go p e below _ s₁ (mkF m 24 #[.val (.int p1), .val (.int p2), .val (.int p3), .val (.int p4), .val (.int p5), .val (.int d0), .val (.int d1), .val (.int d2), .unset, .unset, .unset, .unset, .unset, .unset, .unset, .unset] [(.int p5)])
  refine own_by (fun t_ k_ => XS.bipush X0.here hx rfl (hb hby at_24) k_) ?_
  show own_Go p e below _ s₁ (mkF m 26 #[.val (.int p1), .val (.int p2), .val (.int p3), .val (.int p4), .val (.int p5), .val (.int d0), .val (.int d1), .val (.int d2), .unset, .unset, .unset, .unset, .unset, .unset, .unset, .unset] [(.int (6 : Int32)), (.int p5)])
  refine own_by (fun t_ k_ => XT.ishr X0.here hx rfl (hb hby at_26) rfl k_) ?_
  show own_Go p e below _ s₁ (mkF m 27 #[.val (.int p1), .val (.int p2), .val (.int p3), .val (.int p4), .val (.int p5), .val (.int d0), .val (.int d1), .val (.int d2), .unset, .unset, .unset, .unset, .unset, .unset, .unset, .unset] [(.int (p5 >>> ((6 : Int32) &&& 31)))])
  refine own_by (fun t_ k_ => XS.iconst X0.here hx rfl (hb hby at_27) k_) ?_
  show own_Go p e below _ s₁ (mkF m 28 #[.val (.int p1), .val (.int p2), .val (.int p3), .val (.int p4), .val (.int p5), .val (.int d0), .val (.int d1), .val (.int d2), .unset, .unset, .unset, .unset, .unset, .unset, .unset, .unset] [(.int (3 : Int32)), (.int (p5 >>> ((6 : Int32) &&& 31)))])
  refine own_by (fun t_ k_ => XS.iand X0.here hx rfl (hb hby at_28) rfl k_) ?_
  show own_Go p e below _ s₁ (mkF m 29 #[.val (.int p1), .val (.int p2), .val (.int p3), .val (.int p4), .val (.int p5), .val (.int d0), .val (.int d1), .val (.int d2), .unset, .unset, .unset, .unset, .unset, .unset, .unset, .unset] [(.int ((p5 >>> ((6 : Int32) &&& 31)) &&& (3 : Int32)))])
  refine own_by (fun t_ k_ => XS.istore X0.here hx rfl (hb hby at_29) rfl (l' := #[.val (.int p1), .val (.int p2), .val (.int p3), .val (.int p4), .val (.int p5), .val (.int d0), .val (.int d1), .val (.int d2), .val (.int ((p5 >>> ((6 : Int32) &&& 31)) &&& (3 : Int32))), .unset, .unset, .unset, .unset, .unset, .unset, .unset]) rfl k_) ?_
  show own_Go p e below _ s₁ (mkF m 31 #[.val (.int p1), .val (.int p2), .val (.int p3), .val (.int p4), .val (.int p5), .val (.int d0), .val (.int d1), .val (.int d2), .val (.int ((p5 >>> ((6 : Int32) &&& 31)) &&& (3 : Int32))), .unset, .unset, .unset, .unset, .unset, .unset, .unset] [])
  generalize h_d3 : ((p5 >>> ((6 : Int32) &&& 31)) &&& (3 : Int32)) = d3
  show own_Go p e below _ s₁ (mkF m 31 #[.val (.int p1), .val (.int p2), .val (.int p3), .val (.int p4), .val (.int p5), .val (.int d0), .val (.int d1), .val (.int d2), .val (.int d3), .unset, .unset, .unset, .unset, .unset, .unset, .unset] [])
  refine own_by (fun t_ k_ => XS.iload X0.here hx rfl (hb hby at_31) rfl k_) ?_
  show own_Go p e below _ s₁ (mkF m 33 #[.val (.int p1), .val (.int p2), .val (.int p3), .val (.int p4), .val (.int p5), .val (.int d0), .val (.int d1), .val (.int d2), .val (.int d3), .unset, .unset, .unset, .unset, .unset, .unset, .unset] [(.int p5)])
  refine own_by (fun t_ k_ => XS.bipush X0.here hx rfl (hb hby at_33) k_) ?_
  show own_Go p e below _ s₁ (mkF m 35 #[.val (.int p1), .val (.int p2), .val (.int p3), .val (.int p4), .val (.int p5), .val (.int d0), .val (.int d1), .val (.int d2), .val (.int d3), .unset, .unset, .unset, .unset, .unset, .unset, .unset] [(.int (8 : Int32)), (.int p5)])
  refine own_by (fun t_ k_ => XT.ishr X0.here hx rfl (hb hby at_35) rfl k_) ?_
  show own_Go p e below _ s₁ (mkF m 36 #[.val (.int p1), .val (.int p2), .val (.int p3), .val (.int p4), .val (.int p5), .val (.int d0), .val (.int d1), .val (.int d2), .val (.int d3), .unset, .unset, .unset, .unset, .unset, .unset, .unset] [(.int (p5 >>> ((8 : Int32) &&& 31)))])
  refine own_by (fun t_ k_ => XS.bipush X0.here hx rfl (hb hby at_36) k_) ?_
  show own_Go p e below _ s₁ (mkF m 38 #[.val (.int p1), .val (.int p2), .val (.int p3), .val (.int p4), .val (.int p5), .val (.int d0), .val (.int d1), .val (.int d2), .val (.int d3), .unset, .unset, .unset, .unset, .unset, .unset, .unset] [(.int (7 : Int32)), (.int (p5 >>> ((8 : Int32) &&& 31)))])
  refine own_by (fun t_ k_ => XS.iand X0.here hx rfl (hb hby at_38) rfl k_) ?_
  show own_Go p e below _ s₁ (mkF m 39 #[.val (.int p1), .val (.int p2), .val (.int p3), .val (.int p4), .val (.int p5), .val (.int d0), .val (.int d1), .val (.int d2), .val (.int d3), .unset, .unset, .unset, .unset, .unset, .unset, .unset] [(.int ((p5 >>> ((8 : Int32) &&& 31)) &&& (7 : Int32)))])
  refine own_by (fun t_ k_ => XS.iconst X0.here hx rfl (hb hby at_39) k_) ?_
  show own_Go p e below _ s₁ (mkF m 40 #[.val (.int p1), .val (.int p2), .val (.int p3), .val (.int p4), .val (.int p5), .val (.int d0), .val (.int d1), .val (.int d2), .val (.int d3), .unset, .unset, .unset, .unset, .unset, .unset, .unset] [(.int (5 : Int32)), (.int ((p5 >>> ((8 : Int32) &&& 31)) &&& (7 : Int32)))])
  refine own_by (fun t_ k_ => iremM X0 hx rfl (hb hby at_40) rfl (by decide) k_) ?_
  show own_Go p e below _ s₁ (mkF m 41 #[.val (.int p1), .val (.int p2), .val (.int p3), .val (.int p4), .val (.int p5), .val (.int d0), .val (.int d1), .val (.int d2), .val (.int d3), .unset, .unset, .unset, .unset, .unset, .unset, .unset] [(.int (((p5 >>> ((8 : Int32) &&& 31)) &&& (7 : Int32)) % (5 : Int32)))])
  refine own_by (fun t_ k_ => XS.istore X0.here hx rfl (hb hby at_41) rfl (l' := #[.val (.int p1), .val (.int p2), .val (.int p3), .val (.int p4), .val (.int p5), .val (.int d0), .val (.int d1), .val (.int d2), .val (.int d3), .val (.int (((p5 >>> ((8 : Int32) &&& 31)) &&& (7 : Int32)) % (5 : Int32))), .unset, .unset, .unset, .unset, .unset, .unset]) rfl k_) ?_
  show own_Go p e below _ s₁ (mkF m 43 #[.val (.int p1), .val (.int p2), .val (.int p3), .val (.int p4), .val (.int p5), .val (.int d0), .val (.int d1), .val (.int d2), .val (.int d3), .val (.int (((p5 >>> ((8 : Int32) &&& 31)) &&& (7 : Int32)) % (5 : Int32))), .unset, .unset, .unset, .unset, .unset, .unset] [])
  generalize h_len : (((p5 >>> ((8 : Int32) &&& 31)) &&& (7 : Int32)) % (5 : Int32)) = len
  show own_Go p e below _ s₁ (mkF m 43 #[.val (.int p1), .val (.int p2), .val (.int p3), .val (.int p4), .val (.int p5), .val (.int d0), .val (.int d1), .val (.int d2), .val (.int d3), .val (.int len), .unset, .unset, .unset, .unset, .unset, .unset] [])
  refine own_by (fun t_ k_ => XS.iload X0.here hx rfl (hb hby at_43) rfl k_) ?_
  show own_Go p e below _ s₁ (mkF m 45 #[.val (.int p1), .val (.int p2), .val (.int p3), .val (.int p4), .val (.int p5), .val (.int d0), .val (.int d1), .val (.int d2), .val (.int d3), .val (.int len), .unset, .unset, .unset, .unset, .unset, .unset] [(.int p5)])
  refine own_by (fun t_ k_ => XS.bipush X0.here hx rfl (hb hby at_45) k_) ?_
  show own_Go p e below _ s₁ (mkF m 47 #[.val (.int p1), .val (.int p2), .val (.int p3), .val (.int p4), .val (.int p5), .val (.int d0), .val (.int d1), .val (.int d2), .val (.int d3), .val (.int len), .unset, .unset, .unset, .unset, .unset, .unset] [(.int (11 : Int32)), (.int p5)])
  refine own_by (fun t_ k_ => XT.ishr X0.here hx rfl (hb hby at_47) rfl k_) ?_
  show own_Go p e below _ s₁ (mkF m 48 #[.val (.int p1), .val (.int p2), .val (.int p3), .val (.int p4), .val (.int p5), .val (.int d0), .val (.int d1), .val (.int d2), .val (.int d3), .val (.int len), .unset, .unset, .unset, .unset, .unset, .unset] [(.int (p5 >>> ((11 : Int32) &&& 31)))])
  refine own_by (fun t_ k_ => XS.bipush X0.here hx rfl (hb hby at_48) k_) ?_
  show own_Go p e below _ s₁ (mkF m 50 #[.val (.int p1), .val (.int p2), .val (.int p3), .val (.int p4), .val (.int p5), .val (.int d0), .val (.int d1), .val (.int d2), .val (.int d3), .val (.int len), .unset, .unset, .unset, .unset, .unset, .unset] [(.int (7 : Int32)), (.int (p5 >>> ((11 : Int32) &&& 31)))])
  refine own_by (fun t_ k_ => XS.iand X0.here hx rfl (hb hby at_50) rfl k_) ?_
  show own_Go p e below _ s₁ (mkF m 51 #[.val (.int p1), .val (.int p2), .val (.int p3), .val (.int p4), .val (.int p5), .val (.int d0), .val (.int d1), .val (.int d2), .val (.int d3), .val (.int len), .unset, .unset, .unset, .unset, .unset, .unset] [(.int ((p5 >>> ((11 : Int32) &&& 31)) &&& (7 : Int32)))])
  refine own_by (fun t_ k_ => XS.iconst X0.here hx rfl (hb hby at_51) k_) ?_
  show own_Go p e below _ s₁ (mkF m 52 #[.val (.int p1), .val (.int p2), .val (.int p3), .val (.int p4), .val (.int p5), .val (.int d0), .val (.int d1), .val (.int d2), .val (.int d3), .val (.int len), .unset, .unset, .unset, .unset, .unset, .unset] [(.int (5 : Int32)), (.int ((p5 >>> ((11 : Int32) &&& 31)) &&& (7 : Int32)))])
  refine own_by (fun t_ k_ => iremM X0 hx rfl (hb hby at_52) rfl (by decide) k_) ?_
  show own_Go p e below _ s₁ (mkF m 53 #[.val (.int p1), .val (.int p2), .val (.int p3), .val (.int p4), .val (.int p5), .val (.int d0), .val (.int d1), .val (.int d2), .val (.int d3), .val (.int len), .unset, .unset, .unset, .unset, .unset, .unset] [(.int (((p5 >>> ((11 : Int32) &&& 31)) &&& (7 : Int32)) % (5 : Int32)))])
  refine own_by (fun t_ k_ => XS.istore X0.here hx rfl (hb hby at_53) rfl (l' := #[.val (.int p1), .val (.int p2), .val (.int p3), .val (.int p4), .val (.int p5), .val (.int d0), .val (.int d1), .val (.int d2), .val (.int d3), .val (.int len), .val (.int (((p5 >>> ((11 : Int32) &&& 31)) &&& (7 : Int32)) % (5 : Int32))), .unset, .unset, .unset, .unset, .unset]) rfl k_) ?_
  show own_Go p e below _ s₁ (mkF m 55 #[.val (.int p1), .val (.int p2), .val (.int p3), .val (.int p4), .val (.int p5), .val (.int d0), .val (.int d1), .val (.int d2), .val (.int d3), .val (.int len), .val (.int (((p5 >>> ((11 : Int32) &&& 31)) &&& (7 : Int32)) % (5 : Int32))), .unset, .unset, .unset, .unset, .unset] [])
  generalize h_cnt : (((p5 >>> ((11 : Int32) &&& 31)) &&& (7 : Int32)) % (5 : Int32)) = cnt
  show own_Go p e below _ s₁ (mkF m 55 #[.val (.int p1), .val (.int p2), .val (.int p3), .val (.int p4), .val (.int p5), .val (.int d0), .val (.int d1), .val (.int d2), .val (.int d3), .val (.int len), .val (.int cnt), .unset, .unset, .unset, .unset, .unset] [])
  refine own_newO X0 hx hZ hown (hw _ (List.mem_of_getElem? (i := 0) rfl)) (hw _ (List.mem_of_getElem? (i := 1) rfl)) (hw _ (List.mem_of_getElem? (i := 2) rfl)) e0 (hb hby at_55) (by decide) (by decide) ?_
  intro T1 h1 b1 X1 e1 g1 E1 A1 D1
  have g_b1 : n0 ≤ b1 := Nat.le_trans Z0 (Nat.le_of_eq g1.symm)
  have sz1 : n0 ≤ h1.size := Nat.le_trans Z0 E1.1
  have F2_0 : Fld Z h1 b1 "com/example/wayfold/wayfold/engine/DayTiming$Timeline" "nodes" "[I" .null := D1 (Or.inr (hw _ (List.mem_of_getElem? (i := 11) rfl))) (ty := (.array .int)) (by decide)
  have F3_0 : Fld Z h1 b1 "com/example/wayfold/wayfold/engine/DayTiming$Timeline" "leave" "[D" .null := D1 (Or.inr (hw _ (List.mem_of_getElem? (i := 14) rfl))) (ty := (.array .double)) (by decide)
  have F4_0 : Fld Z h1 b1 "com/example/wayfold/wayfold/engine/DayTiming$Timeline" "interest" "[D" .null := D1 (Or.inr (hw _ (List.mem_of_getElem? (i := 16) rfl))) (ty := (.array .double)) (by decide)
  have F5_0 : Fld Z h1 b1 "com/example/wayfold/wayfold/engine/DayTiming$Timeline" "travel" "[D" .null := D1 (Or.inr (hw _ (List.mem_of_getElem? (i := 18) rfl))) (ty := (.array .double)) (by decide)
  have F6_0 : Fld Z h1 b1 "com/example/wayfold/wayfold/engine/DayTiming$Timeline" "visit" "[D" .null := D1 (Or.inr (hw _ (List.mem_of_getElem? (i := 20) rfl))) (ty := (.array .double)) (by decide)
  have F7_0 : Fld Z h1 b1 "com/example/wayfold/wayfold/engine/DayTiming$Timeline" "waiting" "[D" .null := D1 (Or.inr (hw _ (List.mem_of_getElem? (i := 22) rfl))) (ty := (.array .double)) (by decide)
  have F8_0 : Fld Z h1 b1 "com/example/wayfold/wayfold/engine/DayTiming$Timeline" "load" "[D" .null := D1 (Or.inr (hw _ (List.mem_of_getElem? (i := 24) rfl))) (ty := (.array .double)) (by decide)
  have F9_0 : Fld Z h1 b1 "com/example/wayfold/wayfold/engine/DayTiming$Timeline" "latest" "[D" .null := D1 (Or.inr (hw _ (List.mem_of_getElem? (i := 26) rfl))) (ty := (.array .double)) (by decide)
  have F10_0 : Fld Z h1 b1 "com/example/wayfold/wayfold/engine/DayTiming$Timeline" "best" "[D" .null := D1 (Or.inr (hw _ (List.mem_of_getElem? (i := 28) rfl))) (ty := (.array .double)) (by decide)
  have F11_0 : Fld Z h1 b1 "com/example/wayfold/wayfold/engine/DayTiming$Timeline" "length" "I" (.int (0 : Int32)) := D1 (Or.inl (hw _ (List.mem_of_getElem? (i := 31) rfl))) (ty := .int) (by decide)
  show own_Go p e below _ T1 (mkF m 58 #[.val (.int p1), .val (.int p2), .val (.int p3), .val (.int p4), .val (.int p5), .val (.int d0), .val (.int d1), .val (.int d2), .val (.int d3), .val (.int len), .val (.int cnt), .unset, .unset, .unset, .unset, .unset] [(.ref b1)])
  refine own_by (fun t_ k_ => XS.dup X1.here hx rfl (hb hby at_58) rfl rfl k_) ?_
  show own_Go p e below _ T1 (mkF m 59 #[.val (.int p1), .val (.int p2), .val (.int p3), .val (.int p4), .val (.int p5), .val (.int d0), .val (.int d1), .val (.int d2), .val (.int d3), .val (.int len), .val (.int cnt), .unset, .unset, .unset, .unset, .unset] [(.ref b1), (.ref b1)])
  refine own_by (fun t_ k_ => XS.iconst X1.here hx rfl (hb hby at_59) k_) ?_
  show own_Go p e below _ T1 (mkF m 60 #[.val (.int p1), .val (.int p2), .val (.int p3), .val (.int p4), .val (.int p5), .val (.int d0), .val (.int d1), .val (.int d2), .val (.int d3), .val (.int len), .val (.int cnt), .unset, .unset, .unset, .unset, .unset] [(.int (4 : Int32)), (.ref b1), (.ref b1)])
  refine own_callC (W := 1) X1 hx hZ (y := (⟨"com/example/wayfold/wayfold/engine/DayTiming$Timeline", "<init>", "(I)V"⟩ : MethodName)) rfl hown (hw _ (List.mem_of_getElem? (i := 3) rfl)) (hw _ (List.mem_of_getElem? (i := 4) rfl)) (hw _ (List.mem_of_getElem? (i := 2) rfl)) (hw _ (List.mem_of_getElem? (i := 5) rfl)) (by decide) (by rw [hml]; rfl) (argsL := [(.int (4 : Int32))]) pd_0 rfl (a := b1) (rm1 l Z a0 hw [] b1 h1 n0 sz1 A1 F11_0 F2_0 F3_0 F4_0 F5_0 F6_0 F7_0 F8_0 F9_0 F10_0 g_b1) (by decide) (by decide) (Nat.le_of_eq rfl) (by decide) (by decide) (rest := [(.ref b1)]) e1 rfl (hb hby at_60) ?_
  intro v12 T12 L12 X12 hQ12
  obtain ⟨rfl, N12q, K12, E12, Fl12, b12, hb12, Fn12, V12_0⟩ := hQ12
  have N12 := Fr.app N0 N12q
  have g_b12 : n0 ≤ b12 := Nat.le_trans sz1 hb12
  have sz12 : n0 ≤ T12.heap.size := Nat.le_trans sz1 K12.1
  have ne_b1_b12 : b1 ≠ b12 := Nat.ne_of_lt (Nat.lt_of_lt_of_le A1.lt hb12)
  show own_Go p e below _ T12 (mkF m 63 #[.val (.int p1), .val (.int p2), .val (.int p3), .val (.int p4), .val (.int p5), .val (.int d0), .val (.int d1), .val (.int d2), .val (.int d3), .val (.int len), .val (.int cnt), .unset, .unset, .unset, .unset, .unset] [(.ref b1)])
  refine own_by (fun t_ k_ => XS.astore X12.here hx rfl (hb hby at_63) rfl rfl (l' := #[.val (.int p1), .val (.int p2), .val (.int p3), .val (.int p4), .val (.int p5), .val (.int d0), .val (.int d1), .val (.int d2), .val (.int d3), .val (.int len), .val (.int cnt), .val (.ref b1), .unset, .unset, .unset, .unset]) rfl k_) ?_
  show own_Go p e below _ T12 (mkF m 65 #[.val (.int p1), .val (.int p2), .val (.int p3), .val (.int p4), .val (.int p5), .val (.int d0), .val (.int d1), .val (.int d2), .val (.int d3), .val (.int len), .val (.int cnt), .val (.ref b1), .unset, .unset, .unset, .unset] [])
  refine own_by (fun t_ k_ => XS.aload X12.here hx rfl (hb hby at_65) rfl rfl k_) ?_
  show own_Go p e below _ T12 (mkF m 67 #[.val (.int p1), .val (.int p2), .val (.int p3), .val (.int p4), .val (.int p5), .val (.int d0), .val (.int d1), .val (.int d2), .val (.int d3), .val (.int len), .val (.int cnt), .val (.ref b1), .unset, .unset, .unset, .unset] [(.ref b1)])
  refine own_getF X12 hx hZ hown (hw _ (List.mem_of_getElem? (i := 29) rfl)) Via.refl rfl Fn12 (hb hby at_67) ?_
  intro T13 X13 e13
  show own_Go p e below _ T13 (mkF m 70 #[.val (.int p1), .val (.int p2), .val (.int p3), .val (.int p4), .val (.int p5), .val (.int d0), .val (.int d1), .val (.int d2), .val (.int d3), .val (.int len), .val (.int cnt), .val (.ref b1), .unset, .unset, .unset, .unset] [(.ref b12)])
  refine own_by (fun t_ k_ => XS.iconst X13.here hx rfl (hb hby at_70) k_) ?_
  show own_Go p e below _ T13 (mkF m 71 #[.val (.int p1), .val (.int p2), .val (.int p3), .val (.int p4), .val (.int p5), .val (.int d0), .val (.int d1), .val (.int d2), .val (.int d3), .val (.int len), .val (.int cnt), .val (.ref b1), .unset, .unset, .unset, .unset] [(.int (0 : Int32)), (.ref b12)])
  refine own_by (fun t_ k_ => XS.iloadN X13.here hx rfl (hb hby at_71) rfl k_) ?_
  show own_Go p e below _ T13 (mkF m 72 #[.val (.int p1), .val (.int p2), .val (.int p3), .val (.int p4), .val (.int p5), .val (.int d0), .val (.int d1), .val (.int d2), .val (.int d3), .val (.int len), .val (.int cnt), .val (.ref b1), .unset, .unset, .unset, .unset] [(.int p1), (.int (0 : Int32)), (.ref b12)])
  refine own_iastore X13 hx hZ e13 V12_0 0 (by decide) (Nat.le_of_ble_eq_true rfl) (hb hby at_72) ?_
  intro T14 h14 X14 e14 W14 A14
  have V14_0 : own_Arr Z h14 b12 .int [(.int p1), (.int (0 : Int32)), (.int (0 : Int32)), (.int (0 : Int32))] := A14
  have N14 := Fr.snoc X14 N12 g_b12
  have sz14 : n0 ≤ h14.size := Nat.le_trans sz12 (Keep.of_wr W14).1
  show own_Go p e below _ T14 (mkF m 73 #[.val (.int p1), .val (.int p2), .val (.int p3), .val (.int p4), .val (.int p5), .val (.int d0), .val (.int d1), .val (.int d2), .val (.int d3), .val (.int len), .val (.int cnt), .val (.ref b1), .unset, .unset, .unset, .unset] [])
  refine own_by (fun t_ k_ => XS.aload X14.here hx rfl (hb hby at_73) rfl rfl k_) ?_
  show own_Go p e below _ T14 (mkF m 75 #[.val (.int p1), .val (.int p2), .val (.int p3), .val (.int p4), .val (.int p5), .val (.int d0), .val (.int d1), .val (.int d2), .val (.int d3), .val (.int len), .val (.int cnt), .val (.ref b1), .unset, .unset, .unset, .unset] [(.ref b1)])
  have Fn12_16 : Fld Z h14 b1 "com/example/wayfold/wayfold/engine/DayTiming$Timeline" "nodes" "[I" (.ref b12) := (Fld.other W14 Fn12 (Or.inl ne_b1_b12))
  refine own_getF X14 hx hZ hown (hw _ (List.mem_of_getElem? (i := 29) rfl)) Via.refl e14 Fn12_16 (hb hby at_75) ?_
  intro T15 X15 e15
  show own_Go p e below _ T15 (mkF m 78 #[.val (.int p1), .val (.int p2), .val (.int p3), .val (.int p4), .val (.int p5), .val (.int d0), .val (.int d1), .val (.int d2), .val (.int d3), .val (.int len), .val (.int cnt), .val (.ref b1), .unset, .unset, .unset, .unset] [(.ref b12)])
  refine own_by (fun t_ k_ => XS.iconst X15.here hx rfl (hb hby at_78) k_) ?_
  show own_Go p e below _ T15 (mkF m 79 #[.val (.int p1), .val (.int p2), .val (.int p3), .val (.int p4), .val (.int p5), .val (.int d0), .val (.int d1), .val (.int d2), .val (.int d3), .val (.int len), .val (.int cnt), .val (.ref b1), .unset, .unset, .unset, .unset] [(.int (1 : Int32)), (.ref b12)])
  refine own_by (fun t_ k_ => XS.iloadN X15.here hx rfl (hb hby at_79) rfl k_) ?_
  show own_Go p e below _ T15 (mkF m 80 #[.val (.int p1), .val (.int p2), .val (.int p3), .val (.int p4), .val (.int p5), .val (.int d0), .val (.int d1), .val (.int d2), .val (.int d3), .val (.int len), .val (.int cnt), .val (.ref b1), .unset, .unset, .unset, .unset] [(.int p2), (.int (1 : Int32)), (.ref b12)])
  refine own_iastore X15 hx hZ e15 V14_0 1 (by decide) (Nat.le_of_ble_eq_true rfl) (hb hby at_80) ?_
  intro T17 h17 X17 e17 W17 A17
  have V17_0 : own_Arr Z h17 b12 .int [(.int p1), (.int p2), (.int (0 : Int32)), (.int (0 : Int32))] := A17
  have N17 := Fr.snoc X17 N14 g_b12
  have sz17 : n0 ≤ h17.size := Nat.le_trans sz14 (Keep.of_wr W17).1
  show own_Go p e below _ T17 (mkF m 81 #[.val (.int p1), .val (.int p2), .val (.int p3), .val (.int p4), .val (.int p5), .val (.int d0), .val (.int d1), .val (.int d2), .val (.int d3), .val (.int len), .val (.int cnt), .val (.ref b1), .unset, .unset, .unset, .unset] [])
  refine own_by (fun t_ k_ => XS.aload X17.here hx rfl (hb hby at_81) rfl rfl k_) ?_
  show own_Go p e below _ T17 (mkF m 83 #[.val (.int p1), .val (.int p2), .val (.int p3), .val (.int p4), .val (.int p5), .val (.int d0), .val (.int d1), .val (.int d2), .val (.int d3), .val (.int len), .val (.int cnt), .val (.ref b1), .unset, .unset, .unset, .unset] [(.ref b1)])
  have Fn12_19 : Fld Z h17 b1 "com/example/wayfold/wayfold/engine/DayTiming$Timeline" "nodes" "[I" (.ref b12) := (Fld.other W17 Fn12_16 (Or.inl ne_b1_b12))
  refine own_getF X17 hx hZ hown (hw _ (List.mem_of_getElem? (i := 29) rfl)) Via.refl e17 Fn12_19 (hb hby at_83) ?_
  intro T18 X18 e18
  show own_Go p e below _ T18 (mkF m 86 #[.val (.int p1), .val (.int p2), .val (.int p3), .val (.int p4), .val (.int p5), .val (.int d0), .val (.int d1), .val (.int d2), .val (.int d3), .val (.int len), .val (.int cnt), .val (.ref b1), .unset, .unset, .unset, .unset] [(.ref b12)])
  refine own_by (fun t_ k_ => XS.iconst X18.here hx rfl (hb hby at_86) k_) ?_
  show own_Go p e below _ T18 (mkF m 87 #[.val (.int p1), .val (.int p2), .val (.int p3), .val (.int p4), .val (.int p5), .val (.int d0), .val (.int d1), .val (.int d2), .val (.int d3), .val (.int len), .val (.int cnt), .val (.ref b1), .unset, .unset, .unset, .unset] [(.int (2 : Int32)), (.ref b12)])
  refine own_by (fun t_ k_ => XS.iloadN X18.here hx rfl (hb hby at_87) rfl k_) ?_
  show own_Go p e below _ T18 (mkF m 88 #[.val (.int p1), .val (.int p2), .val (.int p3), .val (.int p4), .val (.int p5), .val (.int d0), .val (.int d1), .val (.int d2), .val (.int d3), .val (.int len), .val (.int cnt), .val (.ref b1), .unset, .unset, .unset, .unset] [(.int p3), (.int (2 : Int32)), (.ref b12)])
  refine own_iastore X18 hx hZ e18 V17_0 2 (by decide) (Nat.le_of_ble_eq_true rfl) (hb hby at_88) ?_
  intro T20 h20 X20 e20 W20 A20
  have V20_0 : own_Arr Z h20 b12 .int [(.int p1), (.int p2), (.int p3), (.int (0 : Int32))] := A20
  have N20 := Fr.snoc X20 N17 g_b12
  have sz20 : n0 ≤ h20.size := Nat.le_trans sz17 (Keep.of_wr W20).1
  show own_Go p e below _ T20 (mkF m 89 #[.val (.int p1), .val (.int p2), .val (.int p3), .val (.int p4), .val (.int p5), .val (.int d0), .val (.int d1), .val (.int d2), .val (.int d3), .val (.int len), .val (.int cnt), .val (.ref b1), .unset, .unset, .unset, .unset] [])
  refine own_by (fun t_ k_ => XS.aload X20.here hx rfl (hb hby at_89) rfl rfl k_) ?_
  show own_Go p e below _ T20 (mkF m 91 #[.val (.int p1), .val (.int p2), .val (.int p3), .val (.int p4), .val (.int p5), .val (.int d0), .val (.int d1), .val (.int d2), .val (.int d3), .val (.int len), .val (.int cnt), .val (.ref b1), .unset, .unset, .unset, .unset] [(.ref b1)])
  have Fn12_22 : Fld Z h20 b1 "com/example/wayfold/wayfold/engine/DayTiming$Timeline" "nodes" "[I" (.ref b12) := (Fld.other W20 Fn12_19 (Or.inl ne_b1_b12))
  refine own_getF X20 hx hZ hown (hw _ (List.mem_of_getElem? (i := 29) rfl)) Via.refl e20 Fn12_22 (hb hby at_91) ?_
  intro T21 X21 e21
  show own_Go p e below _ T21 (mkF m 94 #[.val (.int p1), .val (.int p2), .val (.int p3), .val (.int p4), .val (.int p5), .val (.int d0), .val (.int d1), .val (.int d2), .val (.int d3), .val (.int len), .val (.int cnt), .val (.ref b1), .unset, .unset, .unset, .unset] [(.ref b12)])
  refine own_by (fun t_ k_ => XS.iconst X21.here hx rfl (hb hby at_94) k_) ?_
  show own_Go p e below _ T21 (mkF m 95 #[.val (.int p1), .val (.int p2), .val (.int p3), .val (.int p4), .val (.int p5), .val (.int d0), .val (.int d1), .val (.int d2), .val (.int d3), .val (.int len), .val (.int cnt), .val (.ref b1), .unset, .unset, .unset, .unset] [(.int (3 : Int32)), (.ref b12)])
  refine own_by (fun t_ k_ => XS.iloadN X21.here hx rfl (hb hby at_95) rfl k_) ?_
  show own_Go p e below _ T21 (mkF m 96 #[.val (.int p1), .val (.int p2), .val (.int p3), .val (.int p4), .val (.int p5), .val (.int d0), .val (.int d1), .val (.int d2), .val (.int d3), .val (.int len), .val (.int cnt), .val (.ref b1), .unset, .unset, .unset, .unset] [(.int p4), (.int (3 : Int32)), (.ref b12)])
  refine own_iastore X21 hx hZ e21 V20_0 3 (by decide) (Nat.le_of_ble_eq_true rfl) (hb hby at_96) ?_
  intro T23 h23 X23 e23 W23 A23
  have V23_0 : own_Arr Z h23 b12 .int [(.int p1), (.int p2), (.int p3), (.int p4)] := A23
  have N23 := Fr.snoc X23 N20 g_b12
  have sz23 : n0 ≤ h23.size := Nat.le_trans sz20 (Keep.of_wr W23).1
  show own_Go p e below _ T23 (mkF m 97 #[.val (.int p1), .val (.int p2), .val (.int p3), .val (.int p4), .val (.int p5), .val (.int d0), .val (.int d1), .val (.int d2), .val (.int d3), .val (.int len), .val (.int cnt), .val (.ref b1), .unset, .unset, .unset, .unset] [])
  refine own_by (fun t_ k_ => XS.aload X23.here hx rfl (hb hby at_97) rfl rfl k_) ?_
  show own_Go p e below _ T23 (mkF m 99 #[.val (.int p1), .val (.int p2), .val (.int p3), .val (.int p4), .val (.int p5), .val (.int d0), .val (.int d1), .val (.int d2), .val (.int d3), .val (.int len), .val (.int cnt), .val (.ref b1), .unset, .unset, .unset, .unset] [(.ref b1)])
  refine own_by (fun t_ k_ => XS.iload X23.here hx rfl (hb hby at_99) rfl k_) ?_
  show own_Go p e below _ T23 (mkF m 101 #[.val (.int p1), .val (.int p2), .val (.int p3), .val (.int p4), .val (.int p5), .val (.int d0), .val (.int d1), .val (.int d2), .val (.int d3), .val (.int len), .val (.int cnt), .val (.ref b1), .unset, .unset, .unset, .unset] [(.int len), (.ref b1)])
  have Fl12_25 : Fld Z h23 b1 "com/example/wayfold/wayfold/engine/DayTiming$Timeline" "length" "I" (.int (0 : Int32)) := (Fld.other W23 (Fld.other W20 (Fld.other W17 (Fld.other W14 Fl12 (Or.inl ne_b1_b12)) (Or.inl ne_b1_b12)) (Or.inl ne_b1_b12)) (Or.inl ne_b1_b12))
  have E12_26 : Exa Z h23 b1 "com/example/wayfold/wayfold/engine/DayTiming$Timeline" := (Exa.wr W23 (Exa.wr W20 (Exa.wr W17 (Exa.wr W14 E12))))
  refine own_putF X23 hx hZ hown (hw _ (List.mem_of_getElem? (i := 30) rfl)) Via.refl e23 Fl12_25 E12_26 (Or.inl (hw _ (List.mem_of_getElem? (i := 31) rfl))) (hw _ (List.mem_of_getElem? (i := 1) rfl)) (ty := .int) (by decide) rfl rfl (hb hby at_101) ?_
  intro T24 h24 X24 e24 W24
  have F24 := Fld.same W24 Fl12_25
  have N24 := Fr.snoc X24 N23 g_b1
  have sz24 : n0 ≤ h24.size := Nat.le_trans sz23 (Keep.of_wr W24).1
  show own_Go p e below _ T24 (mkF m 104 #[.val (.int p1), .val (.int p2), .val (.int p3), .val (.int p4), .val (.int p5), .val (.int d0), .val (.int d1), .val (.int d2), .val (.int d3), .val (.int len), .val (.int cnt), .val (.ref b1), .unset, .unset, .unset, .unset] [])
  refine own_by (fun t_ k_ => XS.iconst X24.here hx rfl (hb hby at_104) k_) ?_
  show own_Go p e below _ T24 (mkF m 105 #[.val (.int p1), .val (.int p2), .val (.int p3), .val (.int p4), .val (.int p5), .val (.int d0), .val (.int d1), .val (.int d2), .val (.int d3), .val (.int len), .val (.int cnt), .val (.ref b1), .unset, .unset, .unset, .unset] [(.int (4 : Int32))])
  refine own_newP X24 hx hZ (hw _ (List.mem_of_getElem? (i := 9) rfl)) e24 (hb hby at_105) 4 4 (by decide) (by decide) (by decide) (by decide) (by decide) ?_
  intro T27 h27 b27 X27 e27 g27 E27 A27
  have E12_28 : Exa Z h24 b1 "com/example/wayfold/wayfold/engine/DayTiming$Timeline" := (Exa.wr W24 E12_26)
  have lt_b1_b27 : b1 < b27 := Nat.lt_of_lt_of_le E12_28.lt (Nat.le_of_eq g27.symm)
  have V23_29 : own_Arr Z h24 b12 .int [(.int p1), (.int p2), (.int p3), (.int p4)] := (own_Arr.other V23_0 W24 (Ne.symm ne_b1_b12))
  have lt_b12_b27 : b12 < b27 := Nat.lt_of_lt_of_le V23_29.lt (Nat.le_of_eq g27.symm)
  have g_b27 : n0 ≤ b27 := Nat.le_trans sz24 (Nat.le_of_eq g27.symm)
  have sz27 : n0 ≤ h27.size := Nat.le_trans sz24 E27.1
  have V27_0 : own_Arr Z h27 b27 .int [(.int (0 : Int32)), (.int (0 : Int32)), (.int (0 : Int32)), (.int (0 : Int32))] := A27
  show own_Go p e below _ T27 (mkF m 107 #[.val (.int p1), .val (.int p2), .val (.int p3), .val (.int p4), .val (.int p5), .val (.int d0), .val (.int d1), .val (.int d2), .val (.int d3), .val (.int len), .val (.int cnt), .val (.ref b1), .unset, .unset, .unset, .unset] [(.ref b27)])
  refine own_by (fun t_ k_ => XS.astore X27.here hx rfl (hb hby at_107) rfl rfl (l' := #[.val (.int p1), .val (.int p2), .val (.int p3), .val (.int p4), .val (.int p5), .val (.int d0), .val (.int d1), .val (.int d2), .val (.int d3), .val (.int len), .val (.int cnt), .val (.ref b1), .val (.ref b27), .unset, .unset, .unset]) rfl k_) ?_
  show own_Go p e below _ T27 (mkF m 109 #[.val (.int p1), .val (.int p2), .val (.int p3), .val (.int p4), .val (.int p5), .val (.int d0), .val (.int d1), .val (.int d2), .val (.int d3), .val (.int len), .val (.int cnt), .val (.ref b1), .val (.ref b27), .unset, .unset, .unset] [])
  refine own_by (fun t_ k_ => XS.aload X27.here hx rfl (hb hby at_109) rfl rfl k_) ?_
  show own_Go p e below _ T27 (mkF m 111 #[.val (.int p1), .val (.int p2), .val (.int p3), .val (.int p4), .val (.int p5), .val (.int d0), .val (.int d1), .val (.int d2), .val (.int d3), .val (.int len), .val (.int cnt), .val (.ref b1), .val (.ref b27), .unset, .unset, .unset] [(.ref b27)])
  refine own_by (fun t_ k_ => XS.iconst X27.here hx rfl (hb hby at_111) k_) ?_
  show own_Go p e below _ T27 (mkF m 112 #[.val (.int p1), .val (.int p2), .val (.int p3), .val (.int p4), .val (.int p5), .val (.int d0), .val (.int d1), .val (.int d2), .val (.int d3), .val (.int len), .val (.int cnt), .val (.ref b1), .val (.ref b27), .unset, .unset, .unset] [(.int (0 : Int32)), (.ref b27)])
  refine own_by (fun t_ k_ => XS.iloadN X27.here hx rfl (hb hby at_112) rfl k_) ?_
  show own_Go p e below _ T27 (mkF m 113 #[.val (.int p1), .val (.int p2), .val (.int p3), .val (.int p4), .val (.int p5), .val (.int d0), .val (.int d1), .val (.int d2), .val (.int d3), .val (.int len), .val (.int cnt), .val (.ref b1), .val (.ref b27), .unset, .unset, .unset] [(.int p1), (.int (0 : Int32)), (.ref b27)])
  refine own_by (fun t_ k_ => XS.iload X27.here hx rfl (hb hby at_113) rfl k_) ?_
  show own_Go p e below _ T27 (mkF m 115 #[.val (.int p1), .val (.int p2), .val (.int p3), .val (.int p4), .val (.int p5), .val (.int d0), .val (.int d1), .val (.int d2), .val (.int d3), .val (.int len), .val (.int cnt), .val (.ref b1), .val (.ref b27), .unset, .unset, .unset] [(.int d0), (.int p1), (.int (0 : Int32)), (.ref b27)])
  refine own_by (fun t_ k_ => XS.iadd X27.here hx rfl (hb hby at_115) rfl k_) ?_
  show own_Go p e below _ T27 (mkF m 116 #[.val (.int p1), .val (.int p2), .val (.int p3), .val (.int p4), .val (.int p5), .val (.int d0), .val (.int d1), .val (.int d2), .val (.int d3), .val (.int len), .val (.int cnt), .val (.ref b1), .val (.ref b27), .unset, .unset, .unset] [(.int (p1 + d0)), (.int (0 : Int32)), (.ref b27)])
  refine own_iastore X27 hx hZ e27 V27_0 0 (by decide) (Nat.le_of_ble_eq_true rfl) (hb hby at_116) ?_
  intro T30 h30 X30 e30 W30 A30
  have V30_0 : own_Arr Z h30 b27 .int [(.int (p1 + d0)), (.int (0 : Int32)), (.int (0 : Int32)), (.int (0 : Int32))] := A30
  have N30 := Fr.snoc X30 N24 g_b27
  have sz30 : n0 ≤ h30.size := Nat.le_trans sz27 (Keep.of_wr W30).1
  show own_Go p e below _ T30 (mkF m 117 #[.val (.int p1), .val (.int p2), .val (.int p3), .val (.int p4), .val (.int p5), .val (.int d0), .val (.int d1), .val (.int d2), .val (.int d3), .val (.int len), .val (.int cnt), .val (.ref b1), .val (.ref b27), .unset, .unset, .unset] [])
  refine own_by (fun t_ k_ => XS.aload X30.here hx rfl (hb hby at_117) rfl rfl k_) ?_
  show own_Go p e below _ T30 (mkF m 119 #[.val (.int p1), .val (.int p2), .val (.int p3), .val (.int p4), .val (.int p5), .val (.int d0), .val (.int d1), .val (.int d2), .val (.int d3), .val (.int len), .val (.int cnt), .val (.ref b1), .val (.ref b27), .unset, .unset, .unset] [(.ref b27)])
  refine own_by (fun t_ k_ => XS.iconst X30.here hx rfl (hb hby at_119) k_) ?_
  show own_Go p e below _ T30 (mkF m 120 #[.val (.int p1), .val (.int p2), .val (.int p3), .val (.int p4), .val (.int p5), .val (.int d0), .val (.int d1), .val (.int d2), .val (.int d3), .val (.int len), .val (.int cnt), .val (.ref b1), .val (.ref b27), .unset, .unset, .unset] [(.int (1 : Int32)), (.ref b27)])
  refine own_by (fun t_ k_ => XS.iloadN X30.here hx rfl (hb hby at_120) rfl k_) ?_
  show own_Go p e below _ T30 (mkF m 121 #[.val (.int p1), .val (.int p2), .val (.int p3), .val (.int p4), .val (.int p5), .val (.int d0), .val (.int d1), .val (.int d2), .val (.int d3), .val (.int len), .val (.int cnt), .val (.ref b1), .val (.ref b27), .unset, .unset, .unset] [(.int p2), (.int (1 : Int32)), (.ref b27)])
  refine own_by (fun t_ k_ => XS.iload X30.here hx rfl (hb hby at_121) rfl k_) ?_
  show own_Go p e below _ T30 (mkF m 123 #[.val (.int p1), .val (.int p2), .val (.int p3), .val (.int p4), .val (.int p5), .val (.int d0), .val (.int d1), .val (.int d2), .val (.int d3), .val (.int len), .val (.int cnt), .val (.ref b1), .val (.ref b27), .unset, .unset, .unset] [(.int d1), (.int p2), (.int (1 : Int32)), (.ref b27)])
  refine own_by (fun t_ k_ => XS.iadd X30.here hx rfl (hb hby at_123) rfl k_) ?_
  show own_Go p e below _ T30 (mkF m 124 #[.val (.int p1), .val (.int p2), .val (.int p3), .val (.int p4), .val (.int p5), .val (.int d0), .val (.int d1), .val (.int d2), .val (.int d3), .val (.int len), .val (.int cnt), .val (.ref b1), .val (.ref b27), .unset, .unset, .unset] [(.int (p2 + d1)), (.int (1 : Int32)), (.ref b27)])
  refine own_iastore X30 hx hZ e30 V30_0 1 (by decide) (Nat.le_of_ble_eq_true rfl) (hb hby at_124) ?_
  intro T31 h31 X31 e31 W31 A31
  have V31_0 : own_Arr Z h31 b27 .int [(.int (p1 + d0)), (.int (p2 + d1)), (.int (0 : Int32)), (.int (0 : Int32))] := A31
  have N31 := Fr.snoc X31 N30 g_b27
  have sz31 : n0 ≤ h31.size := Nat.le_trans sz30 (Keep.of_wr W31).1
  show own_Go p e below _ T31 (mkF m 125 #[.val (.int p1), .val (.int p2), .val (.int p3), .val (.int p4), .val (.int p5), .val (.int d0), .val (.int d1), .val (.int d2), .val (.int d3), .val (.int len), .val (.int cnt), .val (.ref b1), .val (.ref b27), .unset, .unset, .unset] [])
  refine own_by (fun t_ k_ => XS.aload X31.here hx rfl (hb hby at_125) rfl rfl k_) ?_
  show own_Go p e below _ T31 (mkF m 127 #[.val (.int p1), .val (.int p2), .val (.int p3), .val (.int p4), .val (.int p5), .val (.int d0), .val (.int d1), .val (.int d2), .val (.int d3), .val (.int len), .val (.int cnt), .val (.ref b1), .val (.ref b27), .unset, .unset, .unset] [(.ref b27)])
  refine own_by (fun t_ k_ => XS.iconst X31.here hx rfl (hb hby at_127) k_) ?_
  show own_Go p e below _ T31 (mkF m 128 #[.val (.int p1), .val (.int p2), .val (.int p3), .val (.int p4), .val (.int p5), .val (.int d0), .val (.int d1), .val (.int d2), .val (.int d3), .val (.int len), .val (.int cnt), .val (.ref b1), .val (.ref b27), .unset, .unset, .unset] [(.int (2 : Int32)), (.ref b27)])
  refine own_by (fun t_ k_ => XS.iloadN X31.here hx rfl (hb hby at_128) rfl k_) ?_
  show own_Go p e below _ T31 (mkF m 129 #[.val (.int p1), .val (.int p2), .val (.int p3), .val (.int p4), .val (.int p5), .val (.int d0), .val (.int d1), .val (.int d2), .val (.int d3), .val (.int len), .val (.int cnt), .val (.ref b1), .val (.ref b27), .unset, .unset, .unset] [(.int p3), (.int (2 : Int32)), (.ref b27)])
  refine own_by (fun t_ k_ => XS.iload X31.here hx rfl (hb hby at_129) rfl k_) ?_
  show own_Go p e below _ T31 (mkF m 131 #[.val (.int p1), .val (.int p2), .val (.int p3), .val (.int p4), .val (.int p5), .val (.int d0), .val (.int d1), .val (.int d2), .val (.int d3), .val (.int len), .val (.int cnt), .val (.ref b1), .val (.ref b27), .unset, .unset, .unset] [(.int d2), (.int p3), (.int (2 : Int32)), (.ref b27)])
  refine own_by (fun t_ k_ => XS.iadd X31.here hx rfl (hb hby at_131) rfl k_) ?_
  show own_Go p e below _ T31 (mkF m 132 #[.val (.int p1), .val (.int p2), .val (.int p3), .val (.int p4), .val (.int p5), .val (.int d0), .val (.int d1), .val (.int d2), .val (.int d3), .val (.int len), .val (.int cnt), .val (.ref b1), .val (.ref b27), .unset, .unset, .unset] [(.int (p3 + d2)), (.int (2 : Int32)), (.ref b27)])
  refine own_iastore X31 hx hZ e31 V31_0 2 (by decide) (Nat.le_of_ble_eq_true rfl) (hb hby at_132) ?_
  intro T32 h32 X32 e32 W32 A32
  have V32_0 : own_Arr Z h32 b27 .int [(.int (p1 + d0)), (.int (p2 + d1)), (.int (p3 + d2)), (.int (0 : Int32))] := A32
  have N32 := Fr.snoc X32 N31 g_b27
  have sz32 : n0 ≤ h32.size := Nat.le_trans sz31 (Keep.of_wr W32).1
  show own_Go p e below _ T32 (mkF m 133 #[.val (.int p1), .val (.int p2), .val (.int p3), .val (.int p4), .val (.int p5), .val (.int d0), .val (.int d1), .val (.int d2), .val (.int d3), .val (.int len), .val (.int cnt), .val (.ref b1), .val (.ref b27), .unset, .unset, .unset] [])
  refine own_by (fun t_ k_ => XS.aload X32.here hx rfl (hb hby at_133) rfl rfl k_) ?_
  show own_Go p e below _ T32 (mkF m 135 #[.val (.int p1), .val (.int p2), .val (.int p3), .val (.int p4), .val (.int p5), .val (.int d0), .val (.int d1), .val (.int d2), .val (.int d3), .val (.int len), .val (.int cnt), .val (.ref b1), .val (.ref b27), .unset, .unset, .unset] [(.ref b27)])
  refine own_by (fun t_ k_ => XS.iconst X32.here hx rfl (hb hby at_135) k_) ?_
  show own_Go p e below _ T32 (mkF m 136 #[.val (.int p1), .val (.int p2), .val (.int p3), .val (.int p4), .val (.int p5), .val (.int d0), .val (.int d1), .val (.int d2), .val (.int d3), .val (.int len), .val (.int cnt), .val (.ref b1), .val (.ref b27), .unset, .unset, .unset] [(.int (3 : Int32)), (.ref b27)])
  refine own_by (fun t_ k_ => XS.iloadN X32.here hx rfl (hb hby at_136) rfl k_) ?_
  show own_Go p e below _ T32 (mkF m 137 #[.val (.int p1), .val (.int p2), .val (.int p3), .val (.int p4), .val (.int p5), .val (.int d0), .val (.int d1), .val (.int d2), .val (.int d3), .val (.int len), .val (.int cnt), .val (.ref b1), .val (.ref b27), .unset, .unset, .unset] [(.int p4), (.int (3 : Int32)), (.ref b27)])
  refine own_by (fun t_ k_ => XS.iload X32.here hx rfl (hb hby at_137) rfl k_) ?_
  show own_Go p e below _ T32 (mkF m 139 #[.val (.int p1), .val (.int p2), .val (.int p3), .val (.int p4), .val (.int p5), .val (.int d0), .val (.int d1), .val (.int d2), .val (.int d3), .val (.int len), .val (.int cnt), .val (.ref b1), .val (.ref b27), .unset, .unset, .unset] [(.int d3), (.int p4), (.int (3 : Int32)), (.ref b27)])
  refine own_by (fun t_ k_ => XS.iadd X32.here hx rfl (hb hby at_139) rfl k_) ?_
  show own_Go p e below _ T32 (mkF m 140 #[.val (.int p1), .val (.int p2), .val (.int p3), .val (.int p4), .val (.int p5), .val (.int d0), .val (.int d1), .val (.int d2), .val (.int d3), .val (.int len), .val (.int cnt), .val (.ref b1), .val (.ref b27), .unset, .unset, .unset] [(.int (p4 + d3)), (.int (3 : Int32)), (.ref b27)])
  refine own_iastore X32 hx hZ e32 V32_0 3 (by decide) (Nat.le_of_ble_eq_true rfl) (hb hby at_140) ?_
  intro T33 h33 X33 e33 W33 A33
  have V33_0 : own_Arr Z h33 b27 .int [(.int (p1 + d0)), (.int (p2 + d1)), (.int (p3 + d2)), (.int (p4 + d3))] := A33
  have N33 := Fr.snoc X33 N32 g_b27
  have sz33 : n0 ≤ h33.size := Nat.le_trans sz32 (Keep.of_wr W33).1
  show own_Go p e below _ T33 (mkF m 141 #[.val (.int p1), .val (.int p2), .val (.int p3), .val (.int p4), .val (.int p5), .val (.int d0), .val (.int d1), .val (.int d2), .val (.int d3), .val (.int len), .val (.int cnt), .val (.ref b1), .val (.ref b27), .unset, .unset, .unset] [])
  refine own_by (fun t_ k_ => XS.aload X33.here hx rfl (hb hby at_141) rfl rfl k_) ?_
  show own_Go p e below _ T33 (mkF m 143 #[.val (.int p1), .val (.int p2), .val (.int p3), .val (.int p4), .val (.int p5), .val (.int d0), .val (.int d1), .val (.int d2), .val (.int d3), .val (.int len), .val (.int cnt), .val (.ref b1), .val (.ref b27), .unset, .unset, .unset] [(.ref b1)])
  refine own_by (fun t_ k_ => XS.aload X33.here hx rfl (hb hby at_143) rfl rfl k_) ?_
  show own_Go p e below _ T33 (mkF m 145 #[.val (.int p1), .val (.int p2), .val (.int p3), .val (.int p4), .val (.int p5), .val (.int d0), .val (.int d1), .val (.int d2), .val (.int d3), .val (.int len), .val (.int cnt), .val (.ref b1), .val (.ref b27), .unset, .unset, .unset] [(.ref b27), (.ref b1)])
  refine own_by (fun t_ k_ => XS.iload X33.here hx rfl (hb hby at_145) rfl k_) ?_
  show own_Go p e below _ T33 (mkF m 147 #[.val (.int p1), .val (.int p2), .val (.int p3), .val (.int p4), .val (.int p5), .val (.int d0), .val (.int d1), .val (.int d2), .val (.int d3), .val (.int len), .val (.int cnt), .val (.ref b1), .val (.ref b27), .unset, .unset, .unset] [(.int cnt), (.ref b27), (.ref b1)])
  have F24_34 : Fld Z h33 b1 "com/example/wayfold/wayfold/engine/DayTiming$Timeline" "length" "I" (.int len) := (Fld.other W33 (Fld.other W32 (Fld.other W31 (Fld.other W30 (Fld.ext E27 F24) (Or.inl (Nat.ne_of_lt lt_b1_b27))) (Or.inl (Nat.ne_of_lt lt_b1_b27))) (Or.inl (Nat.ne_of_lt lt_b1_b27))) (Or.inl (Nat.ne_of_lt lt_b1_b27)))
  have Fn12_35 : Fld Z h33 b1 "com/example/wayfold/wayfold/engine/DayTiming$Timeline" "nodes" "[I" (.ref b12) := (Fld.other W33 (Fld.other W32 (Fld.other W31 (Fld.other W30 (Fld.ext E27 (Fld.other W24 (Fld.other W23 Fn12_22 (Or.inl ne_b1_b12)) (Or.inr (slot_ne (Or.inr (hw _ (List.mem_of_getElem? (i := 11) rfl))) (Or.inl (hw _ (List.mem_of_getElem? (i := 31) rfl))) (by decide) (t := (.array .int)) (t' := .int) (by decide) (by decide))))) (Or.inl (Nat.ne_of_lt lt_b1_b27))) (Or.inl (Nat.ne_of_lt lt_b1_b27))) (Or.inl (Nat.ne_of_lt lt_b1_b27))) (Or.inl (Nat.ne_of_lt lt_b1_b27)))
  have V23_36 : own_Arr Z h33 b12 .int [(.int p1), (.int p2), (.int p3), (.int p4)] := (own_Arr.other (own_Arr.other (own_Arr.other (own_Arr.other (own_Arr.ext V23_29 E27) W30 (Nat.ne_of_lt lt_b12_b27)) W31 (Nat.ne_of_lt lt_b12_b27)) W32 (Nat.ne_of_lt lt_b12_b27)) W33 (Nat.ne_of_lt lt_b12_b27))
  have E12_38 : Exa Z h33 b1 "com/example/wayfold/wayfold/engine/DayTiming$Timeline" := (Exa.wr W33 (Exa.wr W32 (Exa.wr W31 (Exa.wr W30 (Exa.ext E27 E12_28)))))
  refine own_callV (W := 0) X33 hx hZ (y := (⟨"com/example/wayfold/wayfold/engine/DayTiming$Timeline", "shared", "([II)I"⟩ : MethodName)) (z := (⟨"com/example/wayfold/wayfold/engine/DayTiming$Timeline", "shared", "([II)I"⟩ : MethodName)) hown (hw _ (List.mem_of_getElem? (i := 32) rfl)) (hw _ (List.mem_of_getElem? (i := 33) rfl)) (notFace_of_selects (args := #[]) (mvT hZ (hw _ (List.mem_of_getElem? (i := 35) rfl)))) (hw _ (List.mem_of_getElem? (i := 35) rfl)) (hw _ (List.mem_of_getElem? (i := 34) rfl)) (hw _ (List.mem_of_getElem? (i := 2) rfl)) (hw _ (List.mem_of_getElem? (i := 36) rfl)) (by decide) (by rw [hml]; rfl) (argsL := [(.ref b27), (.int cnt)]) pd_2 rfl (a := b1) e33 E12_38 (rm3 l Z a0 hw [] b1 b27 cnt len b12 (p1 + d0) (p2 + d1) (p3 + d2) (p4 + d3) p1 p2 p3 p4 h33 n0 sz33 F24_34 Fn12_35 V23_36 V33_0 (own_le4 (h_cnt ▸ (own_m5 _).2) (h_len ▸ (own_m5 _).2))) (by decide) (by decide) (Nat.le_of_eq rfl) (by decide) (by decide) (rest := []) rfl (hb hby at_147) ?_
  intro v37 T37 L37 X37 hQ37
  obtain ⟨rfl, N37q, e37⟩ := hQ37
  have N37 := Fr.app N33 N37q
  show own_Go p e below _ T37 (mkF m 150 #[.val (.int p1), .val (.int p2), .val (.int p3), .val (.int p4), .val (.int p5), .val (.int d0), .val (.int d1), .val (.int d2), .val (.int d3), .val (.int len), .val (.int cnt), .val (.ref b1), .val (.ref b27), .unset, .unset, .unset] [(.int (own_sh (own_min cnt len) (p1 + d0) (p2 + d1) (p3 + d2) (p4 + d3) p1 p2 p3 p4))])
  refine own_by (fun t_ k_ => XS.istore X37.here hx rfl (hb hby at_150) rfl (l' := #[.val (.int p1), .val (.int p2), .val (.int p3), .val (.int p4), .val (.int p5), .val (.int d0), .val (.int d1), .val (.int d2), .val (.int d3), .val (.int len), .val (.int cnt), .val (.ref b1), .val (.ref b27), .val (.int (own_sh (own_min cnt len) (p1 + d0) (p2 + d1) (p3 + d2) (p4 + d3) p1 p2 p3 p4)), .unset, .unset]) rfl k_) ?_
  show own_Go p e below _ T37 (mkF m 152 #[.val (.int p1), .val (.int p2), .val (.int p3), .val (.int p4), .val (.int p5), .val (.int d0), .val (.int d1), .val (.int d2), .val (.int d3), .val (.int len), .val (.int cnt), .val (.ref b1), .val (.ref b27), .val (.int (own_sh (own_min cnt len) (p1 + d0) (p2 + d1) (p3 + d2) (p4 + d3) p1 p2 p3 p4)), .unset, .unset] [])
  generalize h_got : (own_sh (own_min cnt len) (p1 + d0) (p2 + d1) (p3 + d2) (p4 + d3) p1 p2 p3 p4) = got
  show own_Go p e below _ T37 (mkF m 152 #[.val (.int p1), .val (.int p2), .val (.int p3), .val (.int p4), .val (.int p5), .val (.int d0), .val (.int d1), .val (.int d2), .val (.int d3), .val (.int len), .val (.int cnt), .val (.ref b1), .val (.ref b27), .val (.int got), .unset, .unset] [])
  refine own_by (fun t_ k_ => XS.iload X37.here hx rfl (hb hby at_152) rfl k_) ?_
  show own_Go p e below _ T37 (mkF m 154 #[.val (.int p1), .val (.int p2), .val (.int p3), .val (.int p4), .val (.int p5), .val (.int d0), .val (.int d1), .val (.int d2), .val (.int d3), .val (.int len), .val (.int cnt), .val (.ref b1), .val (.ref b27), .val (.int got), .unset, .unset] [(.int cnt)])
  refine own_by (fun t_ k_ => XS.iload X37.here hx rfl (hb hby at_154) rfl k_) ?_
  show own_Go p e below _ T37 (mkF m 156 #[.val (.int p1), .val (.int p2), .val (.int p3), .val (.int p4), .val (.int p5), .val (.int d0), .val (.int d1), .val (.int d2), .val (.int d3), .val (.int len), .val (.int cnt), .val (.ref b1), .val (.ref b27), .val (.int got), .unset, .unset] [(.int len), (.int cnt)])
  refine own_callS (W := 0) X37 hx hZ (y := (⟨"java/lang/Math", "min", "(II)I"⟩ : MethodName)) hown (hw _ (List.mem_of_getElem? (i := 42) rfl)) (hw _ (List.mem_of_getElem? (i := 39) rfl)) (hw _ (List.mem_of_getElem? (i := 40) rfl)) (hw _ (List.mem_of_getElem? (i := 41) rfl)) (by decide) (by rw [hml]; rfl) (argsL := [(.int cnt), (.int len)]) pd_3 rfl (rm4 l Z a0 hw [] cnt len h33 n0 sz33) (by decide) (by decide) (Nat.le_of_eq rfl) (by decide) (by decide) (rest := []) e37 rfl (hb hby at_156) ?_
  intro v39 T39 L39 X39 hQ39
  obtain ⟨rfl, N39q, e39⟩ := hQ39
  have N39 := Fr.app N37 N39q
  show own_Go p e below _ T39 (mkF m 159 #[.val (.int p1), .val (.int p2), .val (.int p3), .val (.int p4), .val (.int p5), .val (.int d0), .val (.int d1), .val (.int d2), .val (.int d3), .val (.int len), .val (.int cnt), .val (.ref b1), .val (.ref b27), .val (.int got), .unset, .unset] [(.int (own_min cnt len))])
  refine own_by (fun t_ k_ => XS.istore X39.here hx rfl (hb hby at_159) rfl (l' := #[.val (.int p1), .val (.int p2), .val (.int p3), .val (.int p4), .val (.int p5), .val (.int d0), .val (.int d1), .val (.int d2), .val (.int d3), .val (.int len), .val (.int cnt), .val (.ref b1), .val (.ref b27), .val (.int got), .val (.int (own_min cnt len)), .unset]) rfl k_) ?_
  show own_Go p e below _ T39 (mkF m 161 #[.val (.int p1), .val (.int p2), .val (.int p3), .val (.int p4), .val (.int p5), .val (.int d0), .val (.int d1), .val (.int d2), .val (.int d3), .val (.int len), .val (.int cnt), .val (.ref b1), .val (.ref b27), .val (.int got), .val (.int (own_min cnt len)), .unset] [])
  generalize h_mm : (own_min cnt len) = mm
  show own_Go p e below _ T39 (mkF m 161 #[.val (.int p1), .val (.int p2), .val (.int p3), .val (.int p4), .val (.int p5), .val (.int d0), .val (.int d1), .val (.int d2), .val (.int d3), .val (.int len), .val (.int cnt), .val (.ref b1), .val (.ref b27), .val (.int got), .val (.int mm), .unset] [])
  refine own_by (fun t_ k_ => XS.iconst X39.here hx rfl (hb hby at_161) k_) ?_
  show own_Go p e below _ T39 (mkF m 162 #[.val (.int p1), .val (.int p2), .val (.int p3), .val (.int p4), .val (.int p5), .val (.int d0), .val (.int d1), .val (.int d2), .val (.int d3), .val (.int len), .val (.int cnt), .val (.ref b1), .val (.ref b27), .val (.int got), .val (.int mm), .unset] [(.int (0 : Int32))])
  refine own_by (fun t_ k_ => XS.istore X39.here hx rfl (hb hby at_162) rfl (l' := #[.val (.int p1), .val (.int p2), .val (.int p3), .val (.int p4), .val (.int p5), .val (.int d0), .val (.int d1), .val (.int d2), .val (.int d3), .val (.int len), .val (.int cnt), .val (.ref b1), .val (.ref b27), .val (.int got), .val (.int mm), .val (.int (0 : Int32))]) rfl k_) ?_
  show own_Go p e below _ T39 (mkF m 164 #[.val (.int p1), .val (.int p2), .val (.int p3), .val (.int p4), .val (.int p5), .val (.int d0), .val (.int d1), .val (.int d2), .val (.int d3), .val (.int len), .val (.int cnt), .val (.ref b1), .val (.ref b27), .val (.int got), .val (.int mm), .val (.int (0 : Int32))] [])
  refine own_by (fun t_ k_ => XS.iload X39.here hx rfl (hb hby at_164) rfl k_) ?_
  show own_Go p e below _ T39 (mkF m 166 #[.val (.int p1), .val (.int p2), .val (.int p3), .val (.int p4), .val (.int p5), .val (.int d0), .val (.int d1), .val (.int d2), .val (.int d3), .val (.int len), .val (.int cnt), .val (.ref b1), .val (.ref b27), .val (.int got), .val (.int mm), .val (.int (0 : Int32))] [(.int mm)])
  refine own_by (fun t_ k_ => XS.iconst X39.here hx rfl (hb hby at_166) k_) ?_
  show own_Go p e below _ T39 (mkF m 167 #[.val (.int p1), .val (.int p2), .val (.int p3), .val (.int p4), .val (.int p5), .val (.int d0), .val (.int d1), .val (.int d2), .val (.int d3), .val (.int len), .val (.int cnt), .val (.ref b1), .val (.ref b27), .val (.int got), .val (.int mm), .val (.int (0 : Int32))] [(.int (1 : Int32)), (.int mm)])
  refine own_icmp X39 hx 220 (hb hby at_167) (by decide) (by decide) (fun (hc167 : mm < (1 : Int32)) => ?_) (fun (hc167 : ¬ mm < (1 : Int32)) => ?_)
  · show own_Go p e below _ T39 (mkF m 220 #[.val (.int p1), .val (.int p2), .val (.int p3), .val (.int p4), .val (.int p5), .val (.int d0), .val (.int d1), .val (.int d2), .val (.int d3), .val (.int len), .val (.int cnt), .val (.ref b1), .val (.ref b27), .val (.int got), .val (.int mm), .val (.int (0 : Int32))] [])
    refine own_by (fun t_ k_ => XS.iload X39.here hx rfl (hb hby at_220) rfl k_) ?_
    show own_Go p e below _ T39 (mkF m 222 #[.val (.int p1), .val (.int p2), .val (.int p3), .val (.int p4), .val (.int p5), .val (.int d0), .val (.int d1), .val (.int d2), .val (.int d3), .val (.int len), .val (.int cnt), .val (.ref b1), .val (.ref b27), .val (.int got), .val (.int mm), .val (.int (0 : Int32))] [(.int got)])
    refine own_by (fun t_ k_ => XS.iload X39.here hx rfl (hb hby at_222) rfl k_) ?_
    show own_Go p e below _ T39 (mkF m 224 #[.val (.int p1), .val (.int p2), .val (.int p3), .val (.int p4), .val (.int p5), .val (.int d0), .val (.int d1), .val (.int d2), .val (.int d3), .val (.int len), .val (.int cnt), .val (.ref b1), .val (.ref b27), .val (.int got), .val (.int mm), .val (.int (0 : Int32))] [(.int (0 : Int32)), (.int got)])
    refine own_icmp X39 hx 241 (hb hby at_224) (by decide) (by decide) (fun hc => absurd (show got = (0 : Int32) from by rw [← h_got, h_mm]; simp [own_sh, own_addz, own_lt1, own_lt2, own_lt3, own_lt4, hc167]) (by first | exact hc | exact not_not_intro hc)) (fun _ => ?_)
    show own_Go p e below _ T39 (mkF m 227 #[.val (.int p1), .val (.int p2), .val (.int p3), .val (.int p4), .val (.int p5), .val (.int d0), .val (.int d1), .val (.int d2), .val (.int d3), .val (.int len), .val (.int cnt), .val (.ref b1), .val (.ref b27), .val (.int got), .val (.int mm), .val (.int (0 : Int32))] [])
    refine own_by (fun t_ k_ => XS.aload X39.here hx rfl (hb hby at_227) rfl rfl k_) ?_
    show own_Go p e below _ T39 (mkF m 229 #[.val (.int p1), .val (.int p2), .val (.int p3), .val (.int p4), .val (.int p5), .val (.int d0), .val (.int d1), .val (.int d2), .val (.int d3), .val (.int len), .val (.int cnt), .val (.ref b1), .val (.ref b27), .val (.int got), .val (.int mm), .val (.int (0 : Int32))] [(.ref b1)])
    refine own_getF X39 hx hZ hown (hw _ (List.mem_of_getElem? (i := 30) rfl)) Via.refl e39 F24_34 (hb hby at_229) ?_
    intro T40 X40 e40
    show own_Go p e below _ T40 (mkF m 232 #[.val (.int p1), .val (.int p2), .val (.int p3), .val (.int p4), .val (.int p5), .val (.int d0), .val (.int d1), .val (.int d2), .val (.int d3), .val (.int len), .val (.int cnt), .val (.ref b1), .val (.ref b27), .val (.int got), .val (.int mm), .val (.int (0 : Int32))] [(.int len)])
    refine own_by (fun t_ k_ => XS.iload X40.here hx rfl (hb hby at_232) rfl k_) ?_
    show own_Go p e below _ T40 (mkF m 234 #[.val (.int p1), .val (.int p2), .val (.int p3), .val (.int p4), .val (.int p5), .val (.int d0), .val (.int d1), .val (.int d2), .val (.int d3), .val (.int len), .val (.int cnt), .val (.ref b1), .val (.ref b27), .val (.int got), .val (.int mm), .val (.int (0 : Int32))] [(.int len), (.int len)])
    refine own_icmp X40 hx 241 (hb hby at_234) (by decide) (by decide) (fun (hc234 : ¬ len = len) => ?_) (fun (hc234 : len = len) => ?_)
    · exact absurd rfl hc234
    · show own_Go p e below _ T40 (mkF m 237 #[.val (.int p1), .val (.int p2), .val (.int p3), .val (.int p4), .val (.int p5), .val (.int d0), .val (.int d1), .val (.int d2), .val (.int d3), .val (.int len), .val (.int cnt), .val (.ref b1), .val (.ref b27), .val (.int got), .val (.int mm), .val (.int (0 : Int32))] [])
      refine own_by (fun t_ k_ => XS.iconst X40.here hx rfl (hb hby at_237) k_) ?_
      show own_Go p e below _ T40 (mkF m 238 #[.val (.int p1), .val (.int p2), .val (.int p3), .val (.int p4), .val (.int p5), .val (.int d0), .val (.int d1), .val (.int d2), .val (.int d3), .val (.int len), .val (.int cnt), .val (.ref b1), .val (.ref b27), .val (.int got), .val (.int mm), .val (.int (0 : Int32))] [(.int (1 : Int32))])
      refine own_by (fun t_ k_ => XS.goto X40.here hx rfl (pc0 := 238) (pc' := 242) rfl (hb hby at_238) (by decide) (by decide) k_) ?_
      show own_Go p e below _ T40 (mkF m 242 #[.val (.int p1), .val (.int p2), .val (.int p3), .val (.int p4), .val (.int p5), .val (.int d0), .val (.int d1), .val (.int d2), .val (.int d3), .val (.int len), .val (.int cnt), .val (.ref b1), .val (.ref b27), .val (.int got), .val (.int mm), .val (.int (0 : Int32))] [(.int (1 : Int32))])
      refine own_retZ X40 hx hlk Bd.returns (by decide) (hb hby at_242) e40 (by decide) (by decide) ?_
      exact ⟨rfl, N39⟩
  · show own_Go p e below _ T39 (mkF m 170 #[.val (.int p1), .val (.int p2), .val (.int p3), .val (.int p4), .val (.int p5), .val (.int d0), .val (.int d1), .val (.int d2), .val (.int d3), .val (.int len), .val (.int cnt), .val (.ref b1), .val (.ref b27), .val (.int got), .val (.int mm), .val (.int (0 : Int32))] [])
    refine own_by (fun t_ k_ => XS.iload X39.here hx rfl (hb hby at_170) rfl k_) ?_
    show own_Go p e below _ T39 (mkF m 172 #[.val (.int p1), .val (.int p2), .val (.int p3), .val (.int p4), .val (.int p5), .val (.int d0), .val (.int d1), .val (.int d2), .val (.int d3), .val (.int len), .val (.int cnt), .val (.ref b1), .val (.ref b27), .val (.int got), .val (.int mm), .val (.int (0 : Int32))] [(.int d0)])
    refine own_if X39 hx 220 (hb hby at_172) (by decide) (by decide) (fun (hc172 : ¬ d0 = (0 : Int32)) => ?_) (fun (hc172 : d0 = (0 : Int32)) => ?_)
    · show own_Go p e below _ T39 (mkF m 220 #[.val (.int p1), .val (.int p2), .val (.int p3), .val (.int p4), .val (.int p5), .val (.int d0), .val (.int d1), .val (.int d2), .val (.int d3), .val (.int len), .val (.int cnt), .val (.ref b1), .val (.ref b27), .val (.int got), .val (.int mm), .val (.int (0 : Int32))] [])
      refine own_by (fun t_ k_ => XS.iload X39.here hx rfl (hb hby at_220) rfl k_) ?_
      show own_Go p e below _ T39 (mkF m 222 #[.val (.int p1), .val (.int p2), .val (.int p3), .val (.int p4), .val (.int p5), .val (.int d0), .val (.int d1), .val (.int d2), .val (.int d3), .val (.int len), .val (.int cnt), .val (.ref b1), .val (.ref b27), .val (.int got), .val (.int mm), .val (.int (0 : Int32))] [(.int got)])
      refine own_by (fun t_ k_ => XS.iload X39.here hx rfl (hb hby at_222) rfl k_) ?_
      show own_Go p e below _ T39 (mkF m 224 #[.val (.int p1), .val (.int p2), .val (.int p3), .val (.int p4), .val (.int p5), .val (.int d0), .val (.int d1), .val (.int d2), .val (.int d3), .val (.int len), .val (.int cnt), .val (.ref b1), .val (.ref b27), .val (.int got), .val (.int mm), .val (.int (0 : Int32))] [(.int (0 : Int32)), (.int got)])
      refine own_icmp X39 hx 241 (hb hby at_224) (by decide) (by decide) (fun hc => absurd (show got = (0 : Int32) from by rw [← h_got, h_mm]; simp [own_sh, own_addz, own_lt1, own_lt2, own_lt3, own_lt4, hc167, hc172]) (by first | exact hc | exact not_not_intro hc)) (fun _ => ?_)
      show own_Go p e below _ T39 (mkF m 227 #[.val (.int p1), .val (.int p2), .val (.int p3), .val (.int p4), .val (.int p5), .val (.int d0), .val (.int d1), .val (.int d2), .val (.int d3), .val (.int len), .val (.int cnt), .val (.ref b1), .val (.ref b27), .val (.int got), .val (.int mm), .val (.int (0 : Int32))] [])
      refine own_by (fun t_ k_ => XS.aload X39.here hx rfl (hb hby at_227) rfl rfl k_) ?_
      show own_Go p e below _ T39 (mkF m 229 #[.val (.int p1), .val (.int p2), .val (.int p3), .val (.int p4), .val (.int p5), .val (.int d0), .val (.int d1), .val (.int d2), .val (.int d3), .val (.int len), .val (.int cnt), .val (.ref b1), .val (.ref b27), .val (.int got), .val (.int mm), .val (.int (0 : Int32))] [(.ref b1)])
      refine own_getF X39 hx hZ hown (hw _ (List.mem_of_getElem? (i := 30) rfl)) Via.refl e39 F24_34 (hb hby at_229) ?_
      intro T41 X41 e41
      show own_Go p e below _ T41 (mkF m 232 #[.val (.int p1), .val (.int p2), .val (.int p3), .val (.int p4), .val (.int p5), .val (.int d0), .val (.int d1), .val (.int d2), .val (.int d3), .val (.int len), .val (.int cnt), .val (.ref b1), .val (.ref b27), .val (.int got), .val (.int mm), .val (.int (0 : Int32))] [(.int len)])
      refine own_by (fun t_ k_ => XS.iload X41.here hx rfl (hb hby at_232) rfl k_) ?_
      show own_Go p e below _ T41 (mkF m 234 #[.val (.int p1), .val (.int p2), .val (.int p3), .val (.int p4), .val (.int p5), .val (.int d0), .val (.int d1), .val (.int d2), .val (.int d3), .val (.int len), .val (.int cnt), .val (.ref b1), .val (.ref b27), .val (.int got), .val (.int mm), .val (.int (0 : Int32))] [(.int len), (.int len)])
      refine own_icmp X41 hx 241 (hb hby at_234) (by decide) (by decide) (fun (hc234 : ¬ len = len) => ?_) (fun (hc234 : len = len) => ?_)
      · exact absurd rfl hc234
      · show own_Go p e below _ T41 (mkF m 237 #[.val (.int p1), .val (.int p2), .val (.int p3), .val (.int p4), .val (.int p5), .val (.int d0), .val (.int d1), .val (.int d2), .val (.int d3), .val (.int len), .val (.int cnt), .val (.ref b1), .val (.ref b27), .val (.int got), .val (.int mm), .val (.int (0 : Int32))] [])
        refine own_by (fun t_ k_ => XS.iconst X41.here hx rfl (hb hby at_237) k_) ?_
        show own_Go p e below _ T41 (mkF m 238 #[.val (.int p1), .val (.int p2), .val (.int p3), .val (.int p4), .val (.int p5), .val (.int d0), .val (.int d1), .val (.int d2), .val (.int d3), .val (.int len), .val (.int cnt), .val (.ref b1), .val (.ref b27), .val (.int got), .val (.int mm), .val (.int (0 : Int32))] [(.int (1 : Int32))])
        refine own_by (fun t_ k_ => XS.goto X41.here hx rfl (pc0 := 238) (pc' := 242) rfl (hb hby at_238) (by decide) (by decide) k_) ?_
        show own_Go p e below _ T41 (mkF m 242 #[.val (.int p1), .val (.int p2), .val (.int p3), .val (.int p4), .val (.int p5), .val (.int d0), .val (.int d1), .val (.int d2), .val (.int d3), .val (.int len), .val (.int cnt), .val (.ref b1), .val (.ref b27), .val (.int got), .val (.int mm), .val (.int (0 : Int32))] [(.int (1 : Int32))])
        refine own_retZ X41 hx hlk Bd.returns (by decide) (hb hby at_242) e41 (by decide) (by decide) ?_
        exact ⟨rfl, N39⟩
    · show own_Go p e below _ T39 (mkF m 175 #[.val (.int p1), .val (.int p2), .val (.int p3), .val (.int p4), .val (.int p5), .val (.int d0), .val (.int d1), .val (.int d2), .val (.int d3), .val (.int len), .val (.int cnt), .val (.ref b1), .val (.ref b27), .val (.int got), .val (.int mm), .val (.int (0 : Int32))] [])
      refine own_by (fun t_ k_ => XS.iconst X39.here hx rfl (hb hby at_175) k_) ?_
      show own_Go p e below _ T39 (mkF m 176 #[.val (.int p1), .val (.int p2), .val (.int p3), .val (.int p4), .val (.int p5), .val (.int d0), .val (.int d1), .val (.int d2), .val (.int d3), .val (.int len), .val (.int cnt), .val (.ref b1), .val (.ref b27), .val (.int got), .val (.int mm), .val (.int (0 : Int32))] [(.int (1 : Int32))])
      refine own_by (fun t_ k_ => XS.istore X39.here hx rfl (hb hby at_176) rfl (l' := #[.val (.int p1), .val (.int p2), .val (.int p3), .val (.int p4), .val (.int p5), .val (.int d0), .val (.int d1), .val (.int d2), .val (.int d3), .val (.int len), .val (.int cnt), .val (.ref b1), .val (.ref b27), .val (.int got), .val (.int mm), .val (.int (1 : Int32))]) rfl k_) ?_
      show own_Go p e below _ T39 (mkF m 178 #[.val (.int p1), .val (.int p2), .val (.int p3), .val (.int p4), .val (.int p5), .val (.int d0), .val (.int d1), .val (.int d2), .val (.int d3), .val (.int len), .val (.int cnt), .val (.ref b1), .val (.ref b27), .val (.int got), .val (.int mm), .val (.int (1 : Int32))] [])
      refine own_by (fun t_ k_ => XS.iload X39.here hx rfl (hb hby at_178) rfl k_) ?_
      show own_Go p e below _ T39 (mkF m 180 #[.val (.int p1), .val (.int p2), .val (.int p3), .val (.int p4), .val (.int p5), .val (.int d0), .val (.int d1), .val (.int d2), .val (.int d3), .val (.int len), .val (.int cnt), .val (.ref b1), .val (.ref b27), .val (.int got), .val (.int mm), .val (.int (1 : Int32))] [(.int mm)])
      refine own_by (fun t_ k_ => XS.iconst X39.here hx rfl (hb hby at_180) k_) ?_
      show own_Go p e below _ T39 (mkF m 181 #[.val (.int p1), .val (.int p2), .val (.int p3), .val (.int p4), .val (.int p5), .val (.int d0), .val (.int d1), .val (.int d2), .val (.int d3), .val (.int len), .val (.int cnt), .val (.ref b1), .val (.ref b27), .val (.int got), .val (.int mm), .val (.int (1 : Int32))] [(.int (2 : Int32)), (.int mm)])
      refine own_icmp X39 hx 220 (hb hby at_181) (by decide) (by decide) (fun (hc181 : mm < (2 : Int32)) => ?_) (fun (hc181 : ¬ mm < (2 : Int32)) => ?_)
      · show own_Go p e below _ T39 (mkF m 220 #[.val (.int p1), .val (.int p2), .val (.int p3), .val (.int p4), .val (.int p5), .val (.int d0), .val (.int d1), .val (.int d2), .val (.int d3), .val (.int len), .val (.int cnt), .val (.ref b1), .val (.ref b27), .val (.int got), .val (.int mm), .val (.int (1 : Int32))] [])
        refine own_by (fun t_ k_ => XS.iload X39.here hx rfl (hb hby at_220) rfl k_) ?_
        show own_Go p e below _ T39 (mkF m 222 #[.val (.int p1), .val (.int p2), .val (.int p3), .val (.int p4), .val (.int p5), .val (.int d0), .val (.int d1), .val (.int d2), .val (.int d3), .val (.int len), .val (.int cnt), .val (.ref b1), .val (.ref b27), .val (.int got), .val (.int mm), .val (.int (1 : Int32))] [(.int got)])
        refine own_by (fun t_ k_ => XS.iload X39.here hx rfl (hb hby at_222) rfl k_) ?_
        show own_Go p e below _ T39 (mkF m 224 #[.val (.int p1), .val (.int p2), .val (.int p3), .val (.int p4), .val (.int p5), .val (.int d0), .val (.int d1), .val (.int d2), .val (.int d3), .val (.int len), .val (.int cnt), .val (.ref b1), .val (.ref b27), .val (.int got), .val (.int mm), .val (.int (1 : Int32))] [(.int (1 : Int32)), (.int got)])
        refine own_icmp X39 hx 241 (hb hby at_224) (by decide) (by decide) (fun hc => absurd (show got = (1 : Int32) from by rw [← h_got, h_mm]; simp [own_sh, own_addz, own_lt1, own_lt2, own_lt3, own_lt4, hc167, hc172, hc181]) (by first | exact hc | exact not_not_intro hc)) (fun _ => ?_)
        show own_Go p e below _ T39 (mkF m 227 #[.val (.int p1), .val (.int p2), .val (.int p3), .val (.int p4), .val (.int p5), .val (.int d0), .val (.int d1), .val (.int d2), .val (.int d3), .val (.int len), .val (.int cnt), .val (.ref b1), .val (.ref b27), .val (.int got), .val (.int mm), .val (.int (1 : Int32))] [])
        refine own_by (fun t_ k_ => XS.aload X39.here hx rfl (hb hby at_227) rfl rfl k_) ?_
        show own_Go p e below _ T39 (mkF m 229 #[.val (.int p1), .val (.int p2), .val (.int p3), .val (.int p4), .val (.int p5), .val (.int d0), .val (.int d1), .val (.int d2), .val (.int d3), .val (.int len), .val (.int cnt), .val (.ref b1), .val (.ref b27), .val (.int got), .val (.int mm), .val (.int (1 : Int32))] [(.ref b1)])
        refine own_getF X39 hx hZ hown (hw _ (List.mem_of_getElem? (i := 30) rfl)) Via.refl e39 F24_34 (hb hby at_229) ?_
        intro T42 X42 e42
        show own_Go p e below _ T42 (mkF m 232 #[.val (.int p1), .val (.int p2), .val (.int p3), .val (.int p4), .val (.int p5), .val (.int d0), .val (.int d1), .val (.int d2), .val (.int d3), .val (.int len), .val (.int cnt), .val (.ref b1), .val (.ref b27), .val (.int got), .val (.int mm), .val (.int (1 : Int32))] [(.int len)])
        refine own_by (fun t_ k_ => XS.iload X42.here hx rfl (hb hby at_232) rfl k_) ?_
        show own_Go p e below _ T42 (mkF m 234 #[.val (.int p1), .val (.int p2), .val (.int p3), .val (.int p4), .val (.int p5), .val (.int d0), .val (.int d1), .val (.int d2), .val (.int d3), .val (.int len), .val (.int cnt), .val (.ref b1), .val (.ref b27), .val (.int got), .val (.int mm), .val (.int (1 : Int32))] [(.int len), (.int len)])
        refine own_icmp X42 hx 241 (hb hby at_234) (by decide) (by decide) (fun (hc234 : ¬ len = len) => ?_) (fun (hc234 : len = len) => ?_)
        · exact absurd rfl hc234
        · show own_Go p e below _ T42 (mkF m 237 #[.val (.int p1), .val (.int p2), .val (.int p3), .val (.int p4), .val (.int p5), .val (.int d0), .val (.int d1), .val (.int d2), .val (.int d3), .val (.int len), .val (.int cnt), .val (.ref b1), .val (.ref b27), .val (.int got), .val (.int mm), .val (.int (1 : Int32))] [])
          refine own_by (fun t_ k_ => XS.iconst X42.here hx rfl (hb hby at_237) k_) ?_
          show own_Go p e below _ T42 (mkF m 238 #[.val (.int p1), .val (.int p2), .val (.int p3), .val (.int p4), .val (.int p5), .val (.int d0), .val (.int d1), .val (.int d2), .val (.int d3), .val (.int len), .val (.int cnt), .val (.ref b1), .val (.ref b27), .val (.int got), .val (.int mm), .val (.int (1 : Int32))] [(.int (1 : Int32))])
          refine own_by (fun t_ k_ => XS.goto X42.here hx rfl (pc0 := 238) (pc' := 242) rfl (hb hby at_238) (by decide) (by decide) k_) ?_
          show own_Go p e below _ T42 (mkF m 242 #[.val (.int p1), .val (.int p2), .val (.int p3), .val (.int p4), .val (.int p5), .val (.int d0), .val (.int d1), .val (.int d2), .val (.int d3), .val (.int len), .val (.int cnt), .val (.ref b1), .val (.ref b27), .val (.int got), .val (.int mm), .val (.int (1 : Int32))] [(.int (1 : Int32))])
          refine own_retZ X42 hx hlk Bd.returns (by decide) (hb hby at_242) e42 (by decide) (by decide) ?_
          exact ⟨rfl, N39⟩
      · show own_Go p e below _ T39 (mkF m 184 #[.val (.int p1), .val (.int p2), .val (.int p3), .val (.int p4), .val (.int p5), .val (.int d0), .val (.int d1), .val (.int d2), .val (.int d3), .val (.int len), .val (.int cnt), .val (.ref b1), .val (.ref b27), .val (.int got), .val (.int mm), .val (.int (1 : Int32))] [])
        refine own_by (fun t_ k_ => XS.iload X39.here hx rfl (hb hby at_184) rfl k_) ?_
        show own_Go p e below _ T39 (mkF m 186 #[.val (.int p1), .val (.int p2), .val (.int p3), .val (.int p4), .val (.int p5), .val (.int d0), .val (.int d1), .val (.int d2), .val (.int d3), .val (.int len), .val (.int cnt), .val (.ref b1), .val (.ref b27), .val (.int got), .val (.int mm), .val (.int (1 : Int32))] [(.int d1)])
        refine own_if X39 hx 220 (hb hby at_186) (by decide) (by decide) (fun (hc186 : ¬ d1 = (0 : Int32)) => ?_) (fun (hc186 : d1 = (0 : Int32)) => ?_)
        · show own_Go p e below _ T39 (mkF m 220 #[.val (.int p1), .val (.int p2), .val (.int p3), .val (.int p4), .val (.int p5), .val (.int d0), .val (.int d1), .val (.int d2), .val (.int d3), .val (.int len), .val (.int cnt), .val (.ref b1), .val (.ref b27), .val (.int got), .val (.int mm), .val (.int (1 : Int32))] [])
          refine own_by (fun t_ k_ => XS.iload X39.here hx rfl (hb hby at_220) rfl k_) ?_
          show own_Go p e below _ T39 (mkF m 222 #[.val (.int p1), .val (.int p2), .val (.int p3), .val (.int p4), .val (.int p5), .val (.int d0), .val (.int d1), .val (.int d2), .val (.int d3), .val (.int len), .val (.int cnt), .val (.ref b1), .val (.ref b27), .val (.int got), .val (.int mm), .val (.int (1 : Int32))] [(.int got)])
          refine own_by (fun t_ k_ => XS.iload X39.here hx rfl (hb hby at_222) rfl k_) ?_
          show own_Go p e below _ T39 (mkF m 224 #[.val (.int p1), .val (.int p2), .val (.int p3), .val (.int p4), .val (.int p5), .val (.int d0), .val (.int d1), .val (.int d2), .val (.int d3), .val (.int len), .val (.int cnt), .val (.ref b1), .val (.ref b27), .val (.int got), .val (.int mm), .val (.int (1 : Int32))] [(.int (1 : Int32)), (.int got)])
          refine own_icmp X39 hx 241 (hb hby at_224) (by decide) (by decide) (fun hc => absurd (show got = (1 : Int32) from by rw [← h_got, h_mm]; simp [own_sh, own_addz, own_lt1, own_lt2, own_lt3, own_lt4, hc167, hc172, hc181, hc186]) (by first | exact hc | exact not_not_intro hc)) (fun _ => ?_)
          show own_Go p e below _ T39 (mkF m 227 #[.val (.int p1), .val (.int p2), .val (.int p3), .val (.int p4), .val (.int p5), .val (.int d0), .val (.int d1), .val (.int d2), .val (.int d3), .val (.int len), .val (.int cnt), .val (.ref b1), .val (.ref b27), .val (.int got), .val (.int mm), .val (.int (1 : Int32))] [])
          refine own_by (fun t_ k_ => XS.aload X39.here hx rfl (hb hby at_227) rfl rfl k_) ?_
          show own_Go p e below _ T39 (mkF m 229 #[.val (.int p1), .val (.int p2), .val (.int p3), .val (.int p4), .val (.int p5), .val (.int d0), .val (.int d1), .val (.int d2), .val (.int d3), .val (.int len), .val (.int cnt), .val (.ref b1), .val (.ref b27), .val (.int got), .val (.int mm), .val (.int (1 : Int32))] [(.ref b1)])
          refine own_getF X39 hx hZ hown (hw _ (List.mem_of_getElem? (i := 30) rfl)) Via.refl e39 F24_34 (hb hby at_229) ?_
          intro T43 X43 e43
          show own_Go p e below _ T43 (mkF m 232 #[.val (.int p1), .val (.int p2), .val (.int p3), .val (.int p4), .val (.int p5), .val (.int d0), .val (.int d1), .val (.int d2), .val (.int d3), .val (.int len), .val (.int cnt), .val (.ref b1), .val (.ref b27), .val (.int got), .val (.int mm), .val (.int (1 : Int32))] [(.int len)])
          refine own_by (fun t_ k_ => XS.iload X43.here hx rfl (hb hby at_232) rfl k_) ?_
          show own_Go p e below _ T43 (mkF m 234 #[.val (.int p1), .val (.int p2), .val (.int p3), .val (.int p4), .val (.int p5), .val (.int d0), .val (.int d1), .val (.int d2), .val (.int d3), .val (.int len), .val (.int cnt), .val (.ref b1), .val (.ref b27), .val (.int got), .val (.int mm), .val (.int (1 : Int32))] [(.int len), (.int len)])
          refine own_icmp X43 hx 241 (hb hby at_234) (by decide) (by decide) (fun (hc234 : ¬ len = len) => ?_) (fun (hc234 : len = len) => ?_)
          · exact absurd rfl hc234
          · show own_Go p e below _ T43 (mkF m 237 #[.val (.int p1), .val (.int p2), .val (.int p3), .val (.int p4), .val (.int p5), .val (.int d0), .val (.int d1), .val (.int d2), .val (.int d3), .val (.int len), .val (.int cnt), .val (.ref b1), .val (.ref b27), .val (.int got), .val (.int mm), .val (.int (1 : Int32))] [])
            refine own_by (fun t_ k_ => XS.iconst X43.here hx rfl (hb hby at_237) k_) ?_
            show own_Go p e below _ T43 (mkF m 238 #[.val (.int p1), .val (.int p2), .val (.int p3), .val (.int p4), .val (.int p5), .val (.int d0), .val (.int d1), .val (.int d2), .val (.int d3), .val (.int len), .val (.int cnt), .val (.ref b1), .val (.ref b27), .val (.int got), .val (.int mm), .val (.int (1 : Int32))] [(.int (1 : Int32))])
            refine own_by (fun t_ k_ => XS.goto X43.here hx rfl (pc0 := 238) (pc' := 242) rfl (hb hby at_238) (by decide) (by decide) k_) ?_
            show own_Go p e below _ T43 (mkF m 242 #[.val (.int p1), .val (.int p2), .val (.int p3), .val (.int p4), .val (.int p5), .val (.int d0), .val (.int d1), .val (.int d2), .val (.int d3), .val (.int len), .val (.int cnt), .val (.ref b1), .val (.ref b27), .val (.int got), .val (.int mm), .val (.int (1 : Int32))] [(.int (1 : Int32))])
            refine own_retZ X43 hx hlk Bd.returns (by decide) (hb hby at_242) e43 (by decide) (by decide) ?_
            exact ⟨rfl, N39⟩
        · show own_Go p e below _ T39 (mkF m 189 #[.val (.int p1), .val (.int p2), .val (.int p3), .val (.int p4), .val (.int p5), .val (.int d0), .val (.int d1), .val (.int d2), .val (.int d3), .val (.int len), .val (.int cnt), .val (.ref b1), .val (.ref b27), .val (.int got), .val (.int mm), .val (.int (1 : Int32))] [])
          refine own_by (fun t_ k_ => XS.iconst X39.here hx rfl (hb hby at_189) k_) ?_
          show own_Go p e below _ T39 (mkF m 190 #[.val (.int p1), .val (.int p2), .val (.int p3), .val (.int p4), .val (.int p5), .val (.int d0), .val (.int d1), .val (.int d2), .val (.int d3), .val (.int len), .val (.int cnt), .val (.ref b1), .val (.ref b27), .val (.int got), .val (.int mm), .val (.int (1 : Int32))] [(.int (2 : Int32))])
          refine own_by (fun t_ k_ => XS.istore X39.here hx rfl (hb hby at_190) rfl (l' := #[.val (.int p1), .val (.int p2), .val (.int p3), .val (.int p4), .val (.int p5), .val (.int d0), .val (.int d1), .val (.int d2), .val (.int d3), .val (.int len), .val (.int cnt), .val (.ref b1), .val (.ref b27), .val (.int got), .val (.int mm), .val (.int (2 : Int32))]) rfl k_) ?_
          show own_Go p e below _ T39 (mkF m 192 #[.val (.int p1), .val (.int p2), .val (.int p3), .val (.int p4), .val (.int p5), .val (.int d0), .val (.int d1), .val (.int d2), .val (.int d3), .val (.int len), .val (.int cnt), .val (.ref b1), .val (.ref b27), .val (.int got), .val (.int mm), .val (.int (2 : Int32))] [])
          refine own_by (fun t_ k_ => XS.iload X39.here hx rfl (hb hby at_192) rfl k_) ?_
          show own_Go p e below _ T39 (mkF m 194 #[.val (.int p1), .val (.int p2), .val (.int p3), .val (.int p4), .val (.int p5), .val (.int d0), .val (.int d1), .val (.int d2), .val (.int d3), .val (.int len), .val (.int cnt), .val (.ref b1), .val (.ref b27), .val (.int got), .val (.int mm), .val (.int (2 : Int32))] [(.int mm)])
          refine own_by (fun t_ k_ => XS.iconst X39.here hx rfl (hb hby at_194) k_) ?_
          show own_Go p e below _ T39 (mkF m 195 #[.val (.int p1), .val (.int p2), .val (.int p3), .val (.int p4), .val (.int p5), .val (.int d0), .val (.int d1), .val (.int d2), .val (.int d3), .val (.int len), .val (.int cnt), .val (.ref b1), .val (.ref b27), .val (.int got), .val (.int mm), .val (.int (2 : Int32))] [(.int (3 : Int32)), (.int mm)])
          refine own_icmp X39 hx 220 (hb hby at_195) (by decide) (by decide) (fun (hc195 : mm < (3 : Int32)) => ?_) (fun (hc195 : ¬ mm < (3 : Int32)) => ?_)
          · show own_Go p e below _ T39 (mkF m 220 #[.val (.int p1), .val (.int p2), .val (.int p3), .val (.int p4), .val (.int p5), .val (.int d0), .val (.int d1), .val (.int d2), .val (.int d3), .val (.int len), .val (.int cnt), .val (.ref b1), .val (.ref b27), .val (.int got), .val (.int mm), .val (.int (2 : Int32))] [])
            refine own_by (fun t_ k_ => XS.iload X39.here hx rfl (hb hby at_220) rfl k_) ?_
            show own_Go p e below _ T39 (mkF m 222 #[.val (.int p1), .val (.int p2), .val (.int p3), .val (.int p4), .val (.int p5), .val (.int d0), .val (.int d1), .val (.int d2), .val (.int d3), .val (.int len), .val (.int cnt), .val (.ref b1), .val (.ref b27), .val (.int got), .val (.int mm), .val (.int (2 : Int32))] [(.int got)])
            refine own_by (fun t_ k_ => XS.iload X39.here hx rfl (hb hby at_222) rfl k_) ?_
            show own_Go p e below _ T39 (mkF m 224 #[.val (.int p1), .val (.int p2), .val (.int p3), .val (.int p4), .val (.int p5), .val (.int d0), .val (.int d1), .val (.int d2), .val (.int d3), .val (.int len), .val (.int cnt), .val (.ref b1), .val (.ref b27), .val (.int got), .val (.int mm), .val (.int (2 : Int32))] [(.int (2 : Int32)), (.int got)])
            refine own_icmp X39 hx 241 (hb hby at_224) (by decide) (by decide) (fun hc => absurd (show got = (2 : Int32) from by rw [← h_got, h_mm]; simp [own_sh, own_addz, own_lt1, own_lt2, own_lt3, own_lt4, hc167, hc172, hc181, hc186, hc195]) (by first | exact hc | exact not_not_intro hc)) (fun _ => ?_)
            show own_Go p e below _ T39 (mkF m 227 #[.val (.int p1), .val (.int p2), .val (.int p3), .val (.int p4), .val (.int p5), .val (.int d0), .val (.int d1), .val (.int d2), .val (.int d3), .val (.int len), .val (.int cnt), .val (.ref b1), .val (.ref b27), .val (.int got), .val (.int mm), .val (.int (2 : Int32))] [])
            refine own_by (fun t_ k_ => XS.aload X39.here hx rfl (hb hby at_227) rfl rfl k_) ?_
            show own_Go p e below _ T39 (mkF m 229 #[.val (.int p1), .val (.int p2), .val (.int p3), .val (.int p4), .val (.int p5), .val (.int d0), .val (.int d1), .val (.int d2), .val (.int d3), .val (.int len), .val (.int cnt), .val (.ref b1), .val (.ref b27), .val (.int got), .val (.int mm), .val (.int (2 : Int32))] [(.ref b1)])
            refine own_getF X39 hx hZ hown (hw _ (List.mem_of_getElem? (i := 30) rfl)) Via.refl e39 F24_34 (hb hby at_229) ?_
            intro T44 X44 e44
            show own_Go p e below _ T44 (mkF m 232 #[.val (.int p1), .val (.int p2), .val (.int p3), .val (.int p4), .val (.int p5), .val (.int d0), .val (.int d1), .val (.int d2), .val (.int d3), .val (.int len), .val (.int cnt), .val (.ref b1), .val (.ref b27), .val (.int got), .val (.int mm), .val (.int (2 : Int32))] [(.int len)])
            refine own_by (fun t_ k_ => XS.iload X44.here hx rfl (hb hby at_232) rfl k_) ?_
            show own_Go p e below _ T44 (mkF m 234 #[.val (.int p1), .val (.int p2), .val (.int p3), .val (.int p4), .val (.int p5), .val (.int d0), .val (.int d1), .val (.int d2), .val (.int d3), .val (.int len), .val (.int cnt), .val (.ref b1), .val (.ref b27), .val (.int got), .val (.int mm), .val (.int (2 : Int32))] [(.int len), (.int len)])
            refine own_icmp X44 hx 241 (hb hby at_234) (by decide) (by decide) (fun (hc234 : ¬ len = len) => ?_) (fun (hc234 : len = len) => ?_)
            · exact absurd rfl hc234
            · show own_Go p e below _ T44 (mkF m 237 #[.val (.int p1), .val (.int p2), .val (.int p3), .val (.int p4), .val (.int p5), .val (.int d0), .val (.int d1), .val (.int d2), .val (.int d3), .val (.int len), .val (.int cnt), .val (.ref b1), .val (.ref b27), .val (.int got), .val (.int mm), .val (.int (2 : Int32))] [])
              refine own_by (fun t_ k_ => XS.iconst X44.here hx rfl (hb hby at_237) k_) ?_
              show own_Go p e below _ T44 (mkF m 238 #[.val (.int p1), .val (.int p2), .val (.int p3), .val (.int p4), .val (.int p5), .val (.int d0), .val (.int d1), .val (.int d2), .val (.int d3), .val (.int len), .val (.int cnt), .val (.ref b1), .val (.ref b27), .val (.int got), .val (.int mm), .val (.int (2 : Int32))] [(.int (1 : Int32))])
              refine own_by (fun t_ k_ => XS.goto X44.here hx rfl (pc0 := 238) (pc' := 242) rfl (hb hby at_238) (by decide) (by decide) k_) ?_
              show own_Go p e below _ T44 (mkF m 242 #[.val (.int p1), .val (.int p2), .val (.int p3), .val (.int p4), .val (.int p5), .val (.int d0), .val (.int d1), .val (.int d2), .val (.int d3), .val (.int len), .val (.int cnt), .val (.ref b1), .val (.ref b27), .val (.int got), .val (.int mm), .val (.int (2 : Int32))] [(.int (1 : Int32))])
              refine own_retZ X44 hx hlk Bd.returns (by decide) (hb hby at_242) e44 (by decide) (by decide) ?_
              exact ⟨rfl, N39⟩
          · show own_Go p e below _ T39 (mkF m 198 #[.val (.int p1), .val (.int p2), .val (.int p3), .val (.int p4), .val (.int p5), .val (.int d0), .val (.int d1), .val (.int d2), .val (.int d3), .val (.int len), .val (.int cnt), .val (.ref b1), .val (.ref b27), .val (.int got), .val (.int mm), .val (.int (2 : Int32))] [])
            refine own_by (fun t_ k_ => XS.iload X39.here hx rfl (hb hby at_198) rfl k_) ?_
            show own_Go p e below _ T39 (mkF m 200 #[.val (.int p1), .val (.int p2), .val (.int p3), .val (.int p4), .val (.int p5), .val (.int d0), .val (.int d1), .val (.int d2), .val (.int d3), .val (.int len), .val (.int cnt), .val (.ref b1), .val (.ref b27), .val (.int got), .val (.int mm), .val (.int (2 : Int32))] [(.int d2)])
            refine own_if X39 hx 220 (hb hby at_200) (by decide) (by decide) (fun (hc200 : ¬ d2 = (0 : Int32)) => ?_) (fun (hc200 : d2 = (0 : Int32)) => ?_)
            · show own_Go p e below _ T39 (mkF m 220 #[.val (.int p1), .val (.int p2), .val (.int p3), .val (.int p4), .val (.int p5), .val (.int d0), .val (.int d1), .val (.int d2), .val (.int d3), .val (.int len), .val (.int cnt), .val (.ref b1), .val (.ref b27), .val (.int got), .val (.int mm), .val (.int (2 : Int32))] [])
              refine own_by (fun t_ k_ => XS.iload X39.here hx rfl (hb hby at_220) rfl k_) ?_
              show own_Go p e below _ T39 (mkF m 222 #[.val (.int p1), .val (.int p2), .val (.int p3), .val (.int p4), .val (.int p5), .val (.int d0), .val (.int d1), .val (.int d2), .val (.int d3), .val (.int len), .val (.int cnt), .val (.ref b1), .val (.ref b27), .val (.int got), .val (.int mm), .val (.int (2 : Int32))] [(.int got)])
              refine own_by (fun t_ k_ => XS.iload X39.here hx rfl (hb hby at_222) rfl k_) ?_
              show own_Go p e below _ T39 (mkF m 224 #[.val (.int p1), .val (.int p2), .val (.int p3), .val (.int p4), .val (.int p5), .val (.int d0), .val (.int d1), .val (.int d2), .val (.int d3), .val (.int len), .val (.int cnt), .val (.ref b1), .val (.ref b27), .val (.int got), .val (.int mm), .val (.int (2 : Int32))] [(.int (2 : Int32)), (.int got)])
              refine own_icmp X39 hx 241 (hb hby at_224) (by decide) (by decide) (fun hc => absurd (show got = (2 : Int32) from by rw [← h_got, h_mm]; simp [own_sh, own_addz, own_lt1, own_lt2, own_lt3, own_lt4, hc167, hc172, hc181, hc186, hc195, hc200]) (by first | exact hc | exact not_not_intro hc)) (fun _ => ?_)
              show own_Go p e below _ T39 (mkF m 227 #[.val (.int p1), .val (.int p2), .val (.int p3), .val (.int p4), .val (.int p5), .val (.int d0), .val (.int d1), .val (.int d2), .val (.int d3), .val (.int len), .val (.int cnt), .val (.ref b1), .val (.ref b27), .val (.int got), .val (.int mm), .val (.int (2 : Int32))] [])
              refine own_by (fun t_ k_ => XS.aload X39.here hx rfl (hb hby at_227) rfl rfl k_) ?_
              show own_Go p e below _ T39 (mkF m 229 #[.val (.int p1), .val (.int p2), .val (.int p3), .val (.int p4), .val (.int p5), .val (.int d0), .val (.int d1), .val (.int d2), .val (.int d3), .val (.int len), .val (.int cnt), .val (.ref b1), .val (.ref b27), .val (.int got), .val (.int mm), .val (.int (2 : Int32))] [(.ref b1)])
              refine own_getF X39 hx hZ hown (hw _ (List.mem_of_getElem? (i := 30) rfl)) Via.refl e39 F24_34 (hb hby at_229) ?_
              intro T45 X45 e45
              show own_Go p e below _ T45 (mkF m 232 #[.val (.int p1), .val (.int p2), .val (.int p3), .val (.int p4), .val (.int p5), .val (.int d0), .val (.int d1), .val (.int d2), .val (.int d3), .val (.int len), .val (.int cnt), .val (.ref b1), .val (.ref b27), .val (.int got), .val (.int mm), .val (.int (2 : Int32))] [(.int len)])
              refine own_by (fun t_ k_ => XS.iload X45.here hx rfl (hb hby at_232) rfl k_) ?_
              show own_Go p e below _ T45 (mkF m 234 #[.val (.int p1), .val (.int p2), .val (.int p3), .val (.int p4), .val (.int p5), .val (.int d0), .val (.int d1), .val (.int d2), .val (.int d3), .val (.int len), .val (.int cnt), .val (.ref b1), .val (.ref b27), .val (.int got), .val (.int mm), .val (.int (2 : Int32))] [(.int len), (.int len)])
              refine own_icmp X45 hx 241 (hb hby at_234) (by decide) (by decide) (fun (hc234 : ¬ len = len) => ?_) (fun (hc234 : len = len) => ?_)
              · exact absurd rfl hc234
              · show own_Go p e below _ T45 (mkF m 237 #[.val (.int p1), .val (.int p2), .val (.int p3), .val (.int p4), .val (.int p5), .val (.int d0), .val (.int d1), .val (.int d2), .val (.int d3), .val (.int len), .val (.int cnt), .val (.ref b1), .val (.ref b27), .val (.int got), .val (.int mm), .val (.int (2 : Int32))] [])
                refine own_by (fun t_ k_ => XS.iconst X45.here hx rfl (hb hby at_237) k_) ?_
                show own_Go p e below _ T45 (mkF m 238 #[.val (.int p1), .val (.int p2), .val (.int p3), .val (.int p4), .val (.int p5), .val (.int d0), .val (.int d1), .val (.int d2), .val (.int d3), .val (.int len), .val (.int cnt), .val (.ref b1), .val (.ref b27), .val (.int got), .val (.int mm), .val (.int (2 : Int32))] [(.int (1 : Int32))])
                refine own_by (fun t_ k_ => XS.goto X45.here hx rfl (pc0 := 238) (pc' := 242) rfl (hb hby at_238) (by decide) (by decide) k_) ?_
                show own_Go p e below _ T45 (mkF m 242 #[.val (.int p1), .val (.int p2), .val (.int p3), .val (.int p4), .val (.int p5), .val (.int d0), .val (.int d1), .val (.int d2), .val (.int d3), .val (.int len), .val (.int cnt), .val (.ref b1), .val (.ref b27), .val (.int got), .val (.int mm), .val (.int (2 : Int32))] [(.int (1 : Int32))])
                refine own_retZ X45 hx hlk Bd.returns (by decide) (hb hby at_242) e45 (by decide) (by decide) ?_
                exact ⟨rfl, N39⟩
            · show own_Go p e below _ T39 (mkF m 203 #[.val (.int p1), .val (.int p2), .val (.int p3), .val (.int p4), .val (.int p5), .val (.int d0), .val (.int d1), .val (.int d2), .val (.int d3), .val (.int len), .val (.int cnt), .val (.ref b1), .val (.ref b27), .val (.int got), .val (.int mm), .val (.int (2 : Int32))] [])
              refine own_by (fun t_ k_ => XS.iconst X39.here hx rfl (hb hby at_203) k_) ?_
              show own_Go p e below _ T39 (mkF m 204 #[.val (.int p1), .val (.int p2), .val (.int p3), .val (.int p4), .val (.int p5), .val (.int d0), .val (.int d1), .val (.int d2), .val (.int d3), .val (.int len), .val (.int cnt), .val (.ref b1), .val (.ref b27), .val (.int got), .val (.int mm), .val (.int (2 : Int32))] [(.int (3 : Int32))])
              refine own_by (fun t_ k_ => XS.istore X39.here hx rfl (hb hby at_204) rfl (l' := #[.val (.int p1), .val (.int p2), .val (.int p3), .val (.int p4), .val (.int p5), .val (.int d0), .val (.int d1), .val (.int d2), .val (.int d3), .val (.int len), .val (.int cnt), .val (.ref b1), .val (.ref b27), .val (.int got), .val (.int mm), .val (.int (3 : Int32))]) rfl k_) ?_
              show own_Go p e below _ T39 (mkF m 206 #[.val (.int p1), .val (.int p2), .val (.int p3), .val (.int p4), .val (.int p5), .val (.int d0), .val (.int d1), .val (.int d2), .val (.int d3), .val (.int len), .val (.int cnt), .val (.ref b1), .val (.ref b27), .val (.int got), .val (.int mm), .val (.int (3 : Int32))] [])
              refine own_by (fun t_ k_ => XS.iload X39.here hx rfl (hb hby at_206) rfl k_) ?_
              show own_Go p e below _ T39 (mkF m 208 #[.val (.int p1), .val (.int p2), .val (.int p3), .val (.int p4), .val (.int p5), .val (.int d0), .val (.int d1), .val (.int d2), .val (.int d3), .val (.int len), .val (.int cnt), .val (.ref b1), .val (.ref b27), .val (.int got), .val (.int mm), .val (.int (3 : Int32))] [(.int mm)])
              refine own_by (fun t_ k_ => XS.iconst X39.here hx rfl (hb hby at_208) k_) ?_
              show own_Go p e below _ T39 (mkF m 209 #[.val (.int p1), .val (.int p2), .val (.int p3), .val (.int p4), .val (.int p5), .val (.int d0), .val (.int d1), .val (.int d2), .val (.int d3), .val (.int len), .val (.int cnt), .val (.ref b1), .val (.ref b27), .val (.int got), .val (.int mm), .val (.int (3 : Int32))] [(.int (4 : Int32)), (.int mm)])
              refine own_icmp X39 hx 220 (hb hby at_209) (by decide) (by decide) (fun (hc209 : mm < (4 : Int32)) => ?_) (fun (hc209 : ¬ mm < (4 : Int32)) => ?_)
              · show own_Go p e below _ T39 (mkF m 220 #[.val (.int p1), .val (.int p2), .val (.int p3), .val (.int p4), .val (.int p5), .val (.int d0), .val (.int d1), .val (.int d2), .val (.int d3), .val (.int len), .val (.int cnt), .val (.ref b1), .val (.ref b27), .val (.int got), .val (.int mm), .val (.int (3 : Int32))] [])
                refine own_by (fun t_ k_ => XS.iload X39.here hx rfl (hb hby at_220) rfl k_) ?_
                show own_Go p e below _ T39 (mkF m 222 #[.val (.int p1), .val (.int p2), .val (.int p3), .val (.int p4), .val (.int p5), .val (.int d0), .val (.int d1), .val (.int d2), .val (.int d3), .val (.int len), .val (.int cnt), .val (.ref b1), .val (.ref b27), .val (.int got), .val (.int mm), .val (.int (3 : Int32))] [(.int got)])
                refine own_by (fun t_ k_ => XS.iload X39.here hx rfl (hb hby at_222) rfl k_) ?_
                show own_Go p e below _ T39 (mkF m 224 #[.val (.int p1), .val (.int p2), .val (.int p3), .val (.int p4), .val (.int p5), .val (.int d0), .val (.int d1), .val (.int d2), .val (.int d3), .val (.int len), .val (.int cnt), .val (.ref b1), .val (.ref b27), .val (.int got), .val (.int mm), .val (.int (3 : Int32))] [(.int (3 : Int32)), (.int got)])
                refine own_icmp X39 hx 241 (hb hby at_224) (by decide) (by decide) (fun hc => absurd (show got = (3 : Int32) from by rw [← h_got, h_mm]; simp [own_sh, own_addz, own_lt1, own_lt2, own_lt3, own_lt4, hc167, hc172, hc181, hc186, hc195, hc200, hc209]) (by first | exact hc | exact not_not_intro hc)) (fun _ => ?_)
                show own_Go p e below _ T39 (mkF m 227 #[.val (.int p1), .val (.int p2), .val (.int p3), .val (.int p4), .val (.int p5), .val (.int d0), .val (.int d1), .val (.int d2), .val (.int d3), .val (.int len), .val (.int cnt), .val (.ref b1), .val (.ref b27), .val (.int got), .val (.int mm), .val (.int (3 : Int32))] [])
                refine own_by (fun t_ k_ => XS.aload X39.here hx rfl (hb hby at_227) rfl rfl k_) ?_
                show own_Go p e below _ T39 (mkF m 229 #[.val (.int p1), .val (.int p2), .val (.int p3), .val (.int p4), .val (.int p5), .val (.int d0), .val (.int d1), .val (.int d2), .val (.int d3), .val (.int len), .val (.int cnt), .val (.ref b1), .val (.ref b27), .val (.int got), .val (.int mm), .val (.int (3 : Int32))] [(.ref b1)])
                refine own_getF X39 hx hZ hown (hw _ (List.mem_of_getElem? (i := 30) rfl)) Via.refl e39 F24_34 (hb hby at_229) ?_
                intro T46 X46 e46
                show own_Go p e below _ T46 (mkF m 232 #[.val (.int p1), .val (.int p2), .val (.int p3), .val (.int p4), .val (.int p5), .val (.int d0), .val (.int d1), .val (.int d2), .val (.int d3), .val (.int len), .val (.int cnt), .val (.ref b1), .val (.ref b27), .val (.int got), .val (.int mm), .val (.int (3 : Int32))] [(.int len)])
                refine own_by (fun t_ k_ => XS.iload X46.here hx rfl (hb hby at_232) rfl k_) ?_
                show own_Go p e below _ T46 (mkF m 234 #[.val (.int p1), .val (.int p2), .val (.int p3), .val (.int p4), .val (.int p5), .val (.int d0), .val (.int d1), .val (.int d2), .val (.int d3), .val (.int len), .val (.int cnt), .val (.ref b1), .val (.ref b27), .val (.int got), .val (.int mm), .val (.int (3 : Int32))] [(.int len), (.int len)])
                refine own_icmp X46 hx 241 (hb hby at_234) (by decide) (by decide) (fun (hc234 : ¬ len = len) => ?_) (fun (hc234 : len = len) => ?_)
                · exact absurd rfl hc234
                · show own_Go p e below _ T46 (mkF m 237 #[.val (.int p1), .val (.int p2), .val (.int p3), .val (.int p4), .val (.int p5), .val (.int d0), .val (.int d1), .val (.int d2), .val (.int d3), .val (.int len), .val (.int cnt), .val (.ref b1), .val (.ref b27), .val (.int got), .val (.int mm), .val (.int (3 : Int32))] [])
                  refine own_by (fun t_ k_ => XS.iconst X46.here hx rfl (hb hby at_237) k_) ?_
                  show own_Go p e below _ T46 (mkF m 238 #[.val (.int p1), .val (.int p2), .val (.int p3), .val (.int p4), .val (.int p5), .val (.int d0), .val (.int d1), .val (.int d2), .val (.int d3), .val (.int len), .val (.int cnt), .val (.ref b1), .val (.ref b27), .val (.int got), .val (.int mm), .val (.int (3 : Int32))] [(.int (1 : Int32))])
                  refine own_by (fun t_ k_ => XS.goto X46.here hx rfl (pc0 := 238) (pc' := 242) rfl (hb hby at_238) (by decide) (by decide) k_) ?_
                  show own_Go p e below _ T46 (mkF m 242 #[.val (.int p1), .val (.int p2), .val (.int p3), .val (.int p4), .val (.int p5), .val (.int d0), .val (.int d1), .val (.int d2), .val (.int d3), .val (.int len), .val (.int cnt), .val (.ref b1), .val (.ref b27), .val (.int got), .val (.int mm), .val (.int (3 : Int32))] [(.int (1 : Int32))])
                  refine own_retZ X46 hx hlk Bd.returns (by decide) (hb hby at_242) e46 (by decide) (by decide) ?_
                  exact ⟨rfl, N39⟩
              · show own_Go p e below _ T39 (mkF m 212 #[.val (.int p1), .val (.int p2), .val (.int p3), .val (.int p4), .val (.int p5), .val (.int d0), .val (.int d1), .val (.int d2), .val (.int d3), .val (.int len), .val (.int cnt), .val (.ref b1), .val (.ref b27), .val (.int got), .val (.int mm), .val (.int (3 : Int32))] [])
                refine own_by (fun t_ k_ => XS.iload X39.here hx rfl (hb hby at_212) rfl k_) ?_
                show own_Go p e below _ T39 (mkF m 214 #[.val (.int p1), .val (.int p2), .val (.int p3), .val (.int p4), .val (.int p5), .val (.int d0), .val (.int d1), .val (.int d2), .val (.int d3), .val (.int len), .val (.int cnt), .val (.ref b1), .val (.ref b27), .val (.int got), .val (.int mm), .val (.int (3 : Int32))] [(.int d3)])
                refine own_if X39 hx 220 (hb hby at_214) (by decide) (by decide) (fun (hc214 : ¬ d3 = (0 : Int32)) => ?_) (fun (hc214 : d3 = (0 : Int32)) => ?_)
                · show own_Go p e below _ T39 (mkF m 220 #[.val (.int p1), .val (.int p2), .val (.int p3), .val (.int p4), .val (.int p5), .val (.int d0), .val (.int d1), .val (.int d2), .val (.int d3), .val (.int len), .val (.int cnt), .val (.ref b1), .val (.ref b27), .val (.int got), .val (.int mm), .val (.int (3 : Int32))] [])
                  refine own_by (fun t_ k_ => XS.iload X39.here hx rfl (hb hby at_220) rfl k_) ?_
                  show own_Go p e below _ T39 (mkF m 222 #[.val (.int p1), .val (.int p2), .val (.int p3), .val (.int p4), .val (.int p5), .val (.int d0), .val (.int d1), .val (.int d2), .val (.int d3), .val (.int len), .val (.int cnt), .val (.ref b1), .val (.ref b27), .val (.int got), .val (.int mm), .val (.int (3 : Int32))] [(.int got)])
                  refine own_by (fun t_ k_ => XS.iload X39.here hx rfl (hb hby at_222) rfl k_) ?_
                  show own_Go p e below _ T39 (mkF m 224 #[.val (.int p1), .val (.int p2), .val (.int p3), .val (.int p4), .val (.int p5), .val (.int d0), .val (.int d1), .val (.int d2), .val (.int d3), .val (.int len), .val (.int cnt), .val (.ref b1), .val (.ref b27), .val (.int got), .val (.int mm), .val (.int (3 : Int32))] [(.int (3 : Int32)), (.int got)])
                  refine own_icmp X39 hx 241 (hb hby at_224) (by decide) (by decide) (fun hc => absurd (show got = (3 : Int32) from by rw [← h_got, h_mm]; simp [own_sh, own_addz, own_lt1, own_lt2, own_lt3, own_lt4, hc167, hc172, hc181, hc186, hc195, hc200, hc209, hc214]) (by first | exact hc | exact not_not_intro hc)) (fun _ => ?_)
                  show own_Go p e below _ T39 (mkF m 227 #[.val (.int p1), .val (.int p2), .val (.int p3), .val (.int p4), .val (.int p5), .val (.int d0), .val (.int d1), .val (.int d2), .val (.int d3), .val (.int len), .val (.int cnt), .val (.ref b1), .val (.ref b27), .val (.int got), .val (.int mm), .val (.int (3 : Int32))] [])
                  refine own_by (fun t_ k_ => XS.aload X39.here hx rfl (hb hby at_227) rfl rfl k_) ?_
                  show own_Go p e below _ T39 (mkF m 229 #[.val (.int p1), .val (.int p2), .val (.int p3), .val (.int p4), .val (.int p5), .val (.int d0), .val (.int d1), .val (.int d2), .val (.int d3), .val (.int len), .val (.int cnt), .val (.ref b1), .val (.ref b27), .val (.int got), .val (.int mm), .val (.int (3 : Int32))] [(.ref b1)])
                  refine own_getF X39 hx hZ hown (hw _ (List.mem_of_getElem? (i := 30) rfl)) Via.refl e39 F24_34 (hb hby at_229) ?_
                  intro T47 X47 e47
                  show own_Go p e below _ T47 (mkF m 232 #[.val (.int p1), .val (.int p2), .val (.int p3), .val (.int p4), .val (.int p5), .val (.int d0), .val (.int d1), .val (.int d2), .val (.int d3), .val (.int len), .val (.int cnt), .val (.ref b1), .val (.ref b27), .val (.int got), .val (.int mm), .val (.int (3 : Int32))] [(.int len)])
                  refine own_by (fun t_ k_ => XS.iload X47.here hx rfl (hb hby at_232) rfl k_) ?_
                  show own_Go p e below _ T47 (mkF m 234 #[.val (.int p1), .val (.int p2), .val (.int p3), .val (.int p4), .val (.int p5), .val (.int d0), .val (.int d1), .val (.int d2), .val (.int d3), .val (.int len), .val (.int cnt), .val (.ref b1), .val (.ref b27), .val (.int got), .val (.int mm), .val (.int (3 : Int32))] [(.int len), (.int len)])
                  refine own_icmp X47 hx 241 (hb hby at_234) (by decide) (by decide) (fun (hc234 : ¬ len = len) => ?_) (fun (hc234 : len = len) => ?_)
                  · exact absurd rfl hc234
                  · show own_Go p e below _ T47 (mkF m 237 #[.val (.int p1), .val (.int p2), .val (.int p3), .val (.int p4), .val (.int p5), .val (.int d0), .val (.int d1), .val (.int d2), .val (.int d3), .val (.int len), .val (.int cnt), .val (.ref b1), .val (.ref b27), .val (.int got), .val (.int mm), .val (.int (3 : Int32))] [])
                    refine own_by (fun t_ k_ => XS.iconst X47.here hx rfl (hb hby at_237) k_) ?_
                    show own_Go p e below _ T47 (mkF m 238 #[.val (.int p1), .val (.int p2), .val (.int p3), .val (.int p4), .val (.int p5), .val (.int d0), .val (.int d1), .val (.int d2), .val (.int d3), .val (.int len), .val (.int cnt), .val (.ref b1), .val (.ref b27), .val (.int got), .val (.int mm), .val (.int (3 : Int32))] [(.int (1 : Int32))])
                    refine own_by (fun t_ k_ => XS.goto X47.here hx rfl (pc0 := 238) (pc' := 242) rfl (hb hby at_238) (by decide) (by decide) k_) ?_
                    show own_Go p e below _ T47 (mkF m 242 #[.val (.int p1), .val (.int p2), .val (.int p3), .val (.int p4), .val (.int p5), .val (.int d0), .val (.int d1), .val (.int d2), .val (.int d3), .val (.int len), .val (.int cnt), .val (.ref b1), .val (.ref b27), .val (.int got), .val (.int mm), .val (.int (3 : Int32))] [(.int (1 : Int32))])
                    refine own_retZ X47 hx hlk Bd.returns (by decide) (hb hby at_242) e47 (by decide) (by decide) ?_
                    exact ⟨rfl, N39⟩
                · show own_Go p e below _ T39 (mkF m 217 #[.val (.int p1), .val (.int p2), .val (.int p3), .val (.int p4), .val (.int p5), .val (.int d0), .val (.int d1), .val (.int d2), .val (.int d3), .val (.int len), .val (.int cnt), .val (.ref b1), .val (.ref b27), .val (.int got), .val (.int mm), .val (.int (3 : Int32))] [])
                  refine own_by (fun t_ k_ => XS.iconst X39.here hx rfl (hb hby at_217) k_) ?_
                  show own_Go p e below _ T39 (mkF m 218 #[.val (.int p1), .val (.int p2), .val (.int p3), .val (.int p4), .val (.int p5), .val (.int d0), .val (.int d1), .val (.int d2), .val (.int d3), .val (.int len), .val (.int cnt), .val (.ref b1), .val (.ref b27), .val (.int got), .val (.int mm), .val (.int (3 : Int32))] [(.int (4 : Int32))])
                  refine own_by (fun t_ k_ => XS.istore X39.here hx rfl (hb hby at_218) rfl (l' := #[.val (.int p1), .val (.int p2), .val (.int p3), .val (.int p4), .val (.int p5), .val (.int d0), .val (.int d1), .val (.int d2), .val (.int d3), .val (.int len), .val (.int cnt), .val (.ref b1), .val (.ref b27), .val (.int got), .val (.int mm), .val (.int (4 : Int32))]) rfl k_) ?_
                  show own_Go p e below _ T39 (mkF m 220 #[.val (.int p1), .val (.int p2), .val (.int p3), .val (.int p4), .val (.int p5), .val (.int d0), .val (.int d1), .val (.int d2), .val (.int d3), .val (.int len), .val (.int cnt), .val (.ref b1), .val (.ref b27), .val (.int got), .val (.int mm), .val (.int (4 : Int32))] [])
                  refine own_by (fun t_ k_ => XS.iload X39.here hx rfl (hb hby at_220) rfl k_) ?_
                  show own_Go p e below _ T39 (mkF m 222 #[.val (.int p1), .val (.int p2), .val (.int p3), .val (.int p4), .val (.int p5), .val (.int d0), .val (.int d1), .val (.int d2), .val (.int d3), .val (.int len), .val (.int cnt), .val (.ref b1), .val (.ref b27), .val (.int got), .val (.int mm), .val (.int (4 : Int32))] [(.int got)])
                  refine own_by (fun t_ k_ => XS.iload X39.here hx rfl (hb hby at_222) rfl k_) ?_
                  show own_Go p e below _ T39 (mkF m 224 #[.val (.int p1), .val (.int p2), .val (.int p3), .val (.int p4), .val (.int p5), .val (.int d0), .val (.int d1), .val (.int d2), .val (.int d3), .val (.int len), .val (.int cnt), .val (.ref b1), .val (.ref b27), .val (.int got), .val (.int mm), .val (.int (4 : Int32))] [(.int (4 : Int32)), (.int got)])
                  refine own_icmp X39 hx 241 (hb hby at_224) (by decide) (by decide) (fun hc => absurd (show got = (4 : Int32) from by rw [← h_got, h_mm]; simp [own_sh, own_addz, own_lt1, own_lt2, own_lt3, own_lt4, hc167, hc172, hc181, hc186, hc195, hc200, hc209, hc214]) (by first | exact hc | exact not_not_intro hc)) (fun _ => ?_)
                  show own_Go p e below _ T39 (mkF m 227 #[.val (.int p1), .val (.int p2), .val (.int p3), .val (.int p4), .val (.int p5), .val (.int d0), .val (.int d1), .val (.int d2), .val (.int d3), .val (.int len), .val (.int cnt), .val (.ref b1), .val (.ref b27), .val (.int got), .val (.int mm), .val (.int (4 : Int32))] [])
                  refine own_by (fun t_ k_ => XS.aload X39.here hx rfl (hb hby at_227) rfl rfl k_) ?_
                  show own_Go p e below _ T39 (mkF m 229 #[.val (.int p1), .val (.int p2), .val (.int p3), .val (.int p4), .val (.int p5), .val (.int d0), .val (.int d1), .val (.int d2), .val (.int d3), .val (.int len), .val (.int cnt), .val (.ref b1), .val (.ref b27), .val (.int got), .val (.int mm), .val (.int (4 : Int32))] [(.ref b1)])
                  refine own_getF X39 hx hZ hown (hw _ (List.mem_of_getElem? (i := 30) rfl)) Via.refl e39 F24_34 (hb hby at_229) ?_
                  intro T48 X48 e48
                  show own_Go p e below _ T48 (mkF m 232 #[.val (.int p1), .val (.int p2), .val (.int p3), .val (.int p4), .val (.int p5), .val (.int d0), .val (.int d1), .val (.int d2), .val (.int d3), .val (.int len), .val (.int cnt), .val (.ref b1), .val (.ref b27), .val (.int got), .val (.int mm), .val (.int (4 : Int32))] [(.int len)])
                  refine own_by (fun t_ k_ => XS.iload X48.here hx rfl (hb hby at_232) rfl k_) ?_
                  show own_Go p e below _ T48 (mkF m 234 #[.val (.int p1), .val (.int p2), .val (.int p3), .val (.int p4), .val (.int p5), .val (.int d0), .val (.int d1), .val (.int d2), .val (.int d3), .val (.int len), .val (.int cnt), .val (.ref b1), .val (.ref b27), .val (.int got), .val (.int mm), .val (.int (4 : Int32))] [(.int len), (.int len)])
                  refine own_icmp X48 hx 241 (hb hby at_234) (by decide) (by decide) (fun (hc234 : ¬ len = len) => ?_) (fun (hc234 : len = len) => ?_)
                  · exact absurd rfl hc234
                  · show own_Go p e below _ T48 (mkF m 237 #[.val (.int p1), .val (.int p2), .val (.int p3), .val (.int p4), .val (.int p5), .val (.int d0), .val (.int d1), .val (.int d2), .val (.int d3), .val (.int len), .val (.int cnt), .val (.ref b1), .val (.ref b27), .val (.int got), .val (.int mm), .val (.int (4 : Int32))] [])
                    refine own_by (fun t_ k_ => XS.iconst X48.here hx rfl (hb hby at_237) k_) ?_
                    show own_Go p e below _ T48 (mkF m 238 #[.val (.int p1), .val (.int p2), .val (.int p3), .val (.int p4), .val (.int p5), .val (.int d0), .val (.int d1), .val (.int d2), .val (.int d3), .val (.int len), .val (.int cnt), .val (.ref b1), .val (.ref b27), .val (.int got), .val (.int mm), .val (.int (4 : Int32))] [(.int (1 : Int32))])
                    refine own_by (fun t_ k_ => XS.goto X48.here hx rfl (pc0 := 238) (pc' := 242) rfl (hb hby at_238) (by decide) (by decide) k_) ?_
                    show own_Go p e below _ T48 (mkF m 242 #[.val (.int p1), .val (.int p2), .val (.int p3), .val (.int p4), .val (.int p5), .val (.int d0), .val (.int d1), .val (.int d2), .val (.int d3), .val (.int len), .val (.int cnt), .val (.ref b1), .val (.ref b27), .val (.int got), .val (.int mm), .val (.int (4 : Int32))] [(.int (1 : Int32))])
                    refine own_retZ X48 hx hlk Bd.returns (by decide) (hb hby at_242) e48 (by decide) (by decide) ?_
                    exact ⟨rfl, N39⟩
set_option maxRecDepth 65536 in
set_option maxHeartbeats 40000000 in
theorem comes_1 {Post : Tables → Env → Array Value → State → Outcome → State → Prop} (hpost : ∀ tb e args s v u, (limb_1_1.after args s (.returned v) u = true ∧ limb_1_2.after args s (.returned v) u = true ∧ True) → FrameEnd s (.returned v) u (Jvm.fieldLocs frame_1_writes args s ++ Jvm.arrayLocs frame_1_arrays args s ++ Jvm.staticLocs frame_1_statics s) 32 192 → Post tb e args s (.returned v) u) :
    ArmFor flags0 classFile x code maxLocals ret World_1 tables_1 room_1 Calls_1 rest_1 Pre_1 Post := by
  intro l hfl _ _ p e ha hc hk s m args below hf hA hF happ hP
  obtain ⟨hcalls, hrest, hpre⟩ := hP
  obtain ⟨-, -, -, hnamed, -, -, -, hat⟩ := (Spec.applies_iff hf).mp happ
  obtain ⟨hg, hn⟩ := and_e (Cond.before_iff.mp (show (Jvm.Cond.and given_1 narrow_1).before args s = true from hpre))
  obtain ⟨gc, gr0⟩ := and_e hg
  obtain ⟨ga0, gr1⟩ := and_e gr0
  obtain ⟨ga1, gr2⟩ := and_e gr1
  obtain ⟨ga2, gr3⟩ := and_e gr2
  obtain ⟨ga3, gr4⟩ := and_e gr3
  obtain ⟨w0, w1, w2, w3, w4, rfl⟩ : ∃ w0 w1 w2 w3 w4 : Value, args = #[w0, w1, w2, w3, w4] := by
    have hs : args.size = 5 := by simpa [Cond.value, given_1] using gc
    obtain ⟨L⟩ := args
    match L, hs with
    | [w0, w1, w2, w3, w4], _ => exact ⟨w0, w1, w2, w3, w4, rfl⟩
  have hw := fun d (hd : d ∈ tables_1) => atoms_spec (ws := Jvm.Cond.code x code maxLocals ret :: tables_1) hat d (List.mem_cons_of_mem _ hd)
  have hfit : Fit s := fun {y c} hc i hi => by
    obtain ⟨ha, rfl⟩ := Array.getElem?_eq_some_iff.mp hc
    have q := List.all_eq_true.mp ((Array.all_eq_true_iff_forall_mem.mp hF) _ (Array.getElem_mem ha)) i (List.mem_range.mpr hi)
    simpa [Array.getElem?_eq_getElem hi] using q
  obtain ⟨i0, ei0⟩ := is_v ga0
  obtain rfl : w0 = (.int i0) := Option.some.inj ei0
  obtain ⟨i1, ei1⟩ := is_v ga1
  obtain rfl : w1 = (.int i1) := Option.some.inj ei1
  obtain ⟨i2, ei2⟩ := is_v ga2
  obtain rfl : w2 = (.int i2) := Option.some.inj ei2
  obtain ⟨i3, ei3⟩ := is_v ga3
  obtain rfl : w3 = (.int i3) := Option.some.inj ei3
  obtain ⟨i4, ei4⟩ := is_v gr4
  obtain rfl : w4 = (.int i4) := Option.some.inj ei4
  obtain ⟨n, o, h1, h2, h3, _, L, rfl, ⟨rfl, N⟩, hq⟩ := rm0 l s _ hw tables_1 i0 i1 i2 i3 i4 s.heap s.heap.size (Nat.le_refl _) p e ha hc hk s m _ below hf ((Spec.applies_iff_loose hf).mp happ).1 ⟨rfl, State.Warmed39.refl s, rfl⟩ trivial
  refine ⟨n, _, h1, h2, h3, hpost _ _ _ _ _ _ ⟨Cond.after_iff.mpr rfl, Cond.after_iff.mpr (eq_i res_at (Term.int_eval (1)) rfl), trivial⟩ ⟨hq.1, hq.2.1, (hq.2.2.sift fun y hy => Or.inr (N y hy)).mono (by decide) (by decide)⟩⟩
theorem main_1_1 : Claimed_1_1 := comes_1 fun _ _ _ _ _ _ h hF => ⟨h.1, hF⟩
theorem main_1_2 : Claimed_1_2 := comes_1 fun _ _ _ _ _ _ h hF => ⟨h.2.1, hF⟩
end Jvm.Pilot.@@N@@
namespace Jvm.Pilot.@@N@@
open Jvm Jvm.ClassFile Sem Op Lib Jvm.Free Jvm.Stand Jvm.Pilot.@@N@@.Jvm.D
/-! MADE BY PROGRAM (witnessworld.py) out of the Statement's table words and the real class files: 10 classes; the members and pool entries that the words name. The judged class is class 1, her method 1. -/
namespace start1
open Jvm.ClassFile
def u (s : String) : CpInfo := .utf8 (stringToUtf16 s)
/-- a pool by its gaps: so many unusable entries, then the entry; so many at the end -/
def gap : Nat → List CpInfo → List CpInfo
  | 0, r => r
  | n + 1, r => .unusable :: gap n r
def poolList (es : List (Nat × CpInfo)) (last : Nat) : List CpInfo := es.foldr (fun e r => gap e.1 (e.2 :: r)) (gap last [])
def pool (es : List (Nat × CpInfo)) (last : Nat) : Array CpInfo := ⟨poolList es last⟩
def fileOf (pool : Array CpInfo) (this : Nat) (attrs : Array Attribute := #[]) (ms : Array MethodInfo := #[]) (fl : Nat := 33) (sup : Nat := 0) (ifs : Array Nat := #[]) (fds : Array FieldInfo := #[]) : ClassFile where
  minorVersion := 0
  majorVersion := 65
  constantPool := pool
  accessFlags := fl
  thisClass := this
  superClass := sup
  interfaces := ifs
  fields := fds
  methods := ms
  attributes := attrs
def plain (name : String) (sup : Option ClassId) : Class where
  name := name
  kind := .ordinary
  loader := none
  accessFlags := 33
  super := sup
  interfaces := #[]
  cf := none
  fields := #[]
  methods := #[]
  instanceTypes := #[]
  staticTypes := #[]
  resolved := #[]
  callSites := []
  init := .initialized
  statics := none
  mirror := none

def pool0 : Array CpInfo := pool [(5, u "<init>"), (0, u "()V"), (1, .class_ 10), (1, u "java/lang/Object")] 113

def k0c0 : Code := { maxStack := 0, maxLocals := 1, code := object_method_1_code, exceptionTable := #[], attributes := #[] }
def k0m0 : Method := { name := "<init>", desc := "()V", sig := { parameters := [], returnType := none }, accessFlags := 1, code := some k0c0 }
/-- java/lang/Object -/
def k0 : Class := { plain "java/lang/Object" none with
  accessFlags := 33
  interfaces := #[]
  cf := some (fileOf pool0 8 #[] #[{ accessFlags := 1, nameIndex := 5, descriptorIndex := 6, attributes := #[] }] 33 0 #[] #[])
  fields := #[]
  methods := #[k0m0]
  instanceTypes := #[]
  staticTypes := #[]
  resolved := Array.replicate 124 none
  statics := none }

def pool1 : Array CpInfo := pool [(2, .class_ 4), (1, u "java/lang/Object"), (0, u "<init>"), (0, u "()V"), (0, .class_ 8), (0, u "com/example/wayfold/wayfold/engine/DayTiming$Timeline"), (0, .methodref 7 10), (0, .nameAndType 5 11), (0, u "(I)V"), (0, .fieldref 7 13), (0, .nameAndType 14 15), (0, u "nodes"), (0, u "[I"), (0, .fieldref 7 17), (0, .nameAndType 18 19), (0, u "length"), (0, u "I"), (0, .methodref 7 21), (0, .nameAndType 22 23), (0, u "shared"), (0, u "([II)I"), (0, .methodref 25 26), (0, .class_ 27), (0, .nameAndType 28 29), (0, u "java/lang/Math"), (0, u "min"), (0, u "(II)I"), (0, .class_ 31), (0, u "com/example/wayfold/wayfold/engine/TimelineSharedPinLaw"), (2, u "law"), (0, u "(IIIII)Z")] 8

def k1m0 : Method := { name := "<init>", desc := "()V", sig := { parameters := [], returnType := none }, accessFlags := 1, code := none }
def k1c1 : Code := { maxStack := 4, maxLocals := 16, code := code, exceptionTable := #[], attributes := #[] }
def k1m1 : Method := { name := "law", desc := "(IIIII)Z", sig := { parameters := [.int, .int, .int, .int, .int], returnType := some .boolean }, accessFlags := 9, code := some k1c1 }
/-- com/example/wayfold/wayfold/engine/TimelineSharedPinLaw -/
def k1 : Class := { plain "com/example/wayfold/wayfold/engine/TimelineSharedPinLaw" (some 0) with
  accessFlags := 49
  interfaces := #[]
  cf := some (fileOf pool1 30 #[] #[{ accessFlags := 1, nameIndex := 5, descriptorIndex := 6, attributes := #[] }, { accessFlags := 9, nameIndex := 34, descriptorIndex := 35, attributes := #[] }] 49 2 #[] #[])
  fields := #[]
  methods := #[k1m0, k1m1]
  instanceTypes := #[]
  staticTypes := #[]
  resolved := Array.replicate 44 none
  statics := none }

def pool2 : Array CpInfo := pool [(1, .methodref 2 3), (0, .class_ 4), (0, .nameAndType 5 6), (0, u "java/lang/Object"), (0, u "<init>"), (0, u "()V"), (0, .fieldref 8 9), (0, .class_ 10), (0, .nameAndType 11 12), (0, u "com/example/wayfold/wayfold/engine/DayTiming$Timeline"), (0, u "nodes"), (0, u "[I"), (0, .fieldref 8 14), (0, .nameAndType 15 16), (0, u "leave"), (0, u "[D"), (0, .fieldref 8 18), (0, .nameAndType 19 16), (0, u "interest"), (0, .fieldref 8 21), (0, .nameAndType 22 16), (0, u "travel"), (0, .fieldref 8 24), (0, .nameAndType 25 16), (0, u "visit"), (0, .fieldref 8 27), (0, .nameAndType 28 16), (0, u "waiting"), (0, .fieldref 8 30), (0, .nameAndType 31 16), (0, u "load"), (0, .fieldref 8 33), (0, .nameAndType 34 16), (0, u "latest"), (0, .fieldref 8 36), (0, .nameAndType 37 16), (0, u "best"), (0, .fieldref 8 39), (0, .nameAndType 40 41), (0, u "length"), (0, u "I"), (6, .methodref 49 50), (0, .class_ 51), (0, .nameAndType 52 53), (0, u "java/lang/Math"), (0, u "min"), (0, u "(II)I"), (0, u "(I)V"), (4, u "shared"), (0, u "([II)I"), (6, .class_ 68), (0, u "com/example/wayfold/wayfold/engine/DayTiming")] 2

def k2c0 : Code := { maxStack := 3, maxLocals := 2, code := prog_4_method_1_code, exceptionTable := #[], attributes := #[] }
def k2m0 : Method := { name := "<init>", desc := "(I)V", sig := { parameters := [.int], returnType := none }, accessFlags := 0, code := some k2c0 }
def k2c1 : Code := { maxStack := 3, maxLocals := 5, code := prog_4_method_3_code, exceptionTable := #[], attributes := #[] }
def k2m1 : Method := { name := "shared", desc := "([II)I", sig := { parameters := [(.array .int), .int], returnType := some .int }, accessFlags := 0, code := some k2c1 }
/-- com/example/wayfold/wayfold/engine/DayTiming$Timeline -/
def k2 : Class := { plain "com/example/wayfold/wayfold/engine/DayTiming$Timeline" (some 0) with
  accessFlags := 48
  interfaces := #[]
  cf := some (fileOf pool2 8 #[.nestHost 67] #[{ accessFlags := 0, nameIndex := 5, descriptorIndex := 54, attributes := #[] }, { accessFlags := 0, nameIndex := 59, descriptorIndex := 60, attributes := #[] }] 48 2 #[] #[{ accessFlags := 16, nameIndex := 11, descriptorIndex := 12, attributes := #[] }, { accessFlags := 0, nameIndex := 40, descriptorIndex := 41, attributes := #[] }, { accessFlags := 16, nameIndex := 15, descriptorIndex := 16, attributes := #[] }, { accessFlags := 16, nameIndex := 19, descriptorIndex := 16, attributes := #[] }, { accessFlags := 16, nameIndex := 22, descriptorIndex := 16, attributes := #[] }, { accessFlags := 16, nameIndex := 25, descriptorIndex := 16, attributes := #[] }, { accessFlags := 16, nameIndex := 28, descriptorIndex := 16, attributes := #[] }, { accessFlags := 16, nameIndex := 31, descriptorIndex := 16, attributes := #[] }, { accessFlags := 16, nameIndex := 34, descriptorIndex := 16, attributes := #[] }, { accessFlags := 16, nameIndex := 37, descriptorIndex := 16, attributes := #[] }])
  fields := #[{ name := "nodes", type := (.array .int), accessFlags := 16, slot := 0, constantValue := 0 }, { name := "length", type := .int, accessFlags := 0, slot := 1, constantValue := 0 }, { name := "leave", type := (.array .double), accessFlags := 16, slot := 2, constantValue := 0 }, { name := "interest", type := (.array .double), accessFlags := 16, slot := 3, constantValue := 0 }, { name := "travel", type := (.array .double), accessFlags := 16, slot := 4, constantValue := 0 }, { name := "visit", type := (.array .double), accessFlags := 16, slot := 5, constantValue := 0 }, { name := "waiting", type := (.array .double), accessFlags := 16, slot := 6, constantValue := 0 }, { name := "load", type := (.array .double), accessFlags := 16, slot := 7, constantValue := 0 }, { name := "latest", type := (.array .double), accessFlags := 16, slot := 8, constantValue := 0 }, { name := "best", type := (.array .double), accessFlags := 16, slot := 9, constantValue := 0 }]
  methods := #[k2m0, k2m1]
  instanceTypes := #[(.array .int), .int, (.array .double), (.array .double), (.array .double), (.array .double), (.array .double), (.array .double), (.array .double), (.array .double)]
  staticTypes := #[]
  resolved := Array.replicate 71 none
  statics := none }

def pool3 : Array CpInfo := pool [(1, .class_ 2), (0, u "java/lang/Math"), (1, .class_ 6), (1, u "java/lang/Object"), (0, u "<init>"), (0, u "()V"), (89, .class_ 100), (1, u "java/lang/Math$RandomNumberGeneratorHolder"), (71, u "negativeZeroFloatBits"), (0, u "J"), (2, u "negativeZeroDoubleBits"), (24, u "min"), (43, u "$assertionsDisabled"), (0, u "Z"), (88, u "(II)I"), (2, u "twoToTheDoubleScaleDown"), (0, u "D"), (4, u "twoToTheDoubleScaleUp"), (9, u "E"), (3, u "PI"), (2, u "TAU"), (2, u "DEGREES_TO_RADIANS"), (0, u "RADIANS_TO_DEGREES")] 94

def k3m0 : Method := { name := "<init>", desc := "()V", sig := { parameters := [], returnType := none }, accessFlags := 2, code := none }
def k3c1 : Code := { maxStack := 2, maxLocals := 2, code := jdk_29_method_69_code, exceptionTable := #[], attributes := #[] }
def k3m1 : Method := { name := "min", desc := "(II)I", sig := { parameters := [.int, .int], returnType := some .int }, accessFlags := 9, code := some k3c1 }
/-- java/lang/Math -/
def k3 : Class := { plain "java/lang/Math" (some 0) with
  accessFlags := 49
  interfaces := #[]
  cf := some (fileOf pool3 1 #[.nestMembers #[98]] #[{ accessFlags := 2, nameIndex := 7, descriptorIndex := 8, attributes := #[] }, { accessFlags := 9, nameIndex := 201, descriptorIndex := 335, attributes := #[] }] 49 4 #[] #[{ accessFlags := 25, nameIndex := 354, descriptorIndex := 339, attributes := #[] }, { accessFlags := 25, nameIndex := 358, descriptorIndex := 339, attributes := #[] }, { accessFlags := 25, nameIndex := 361, descriptorIndex := 339, attributes := #[] }, { accessFlags := 26, nameIndex := 364, descriptorIndex := 339, attributes := #[] }, { accessFlags := 26, nameIndex := 365, descriptorIndex := 339, attributes := #[] }, { accessFlags := 26, nameIndex := 172, descriptorIndex := 173, attributes := #[] }, { accessFlags := 26, nameIndex := 176, descriptorIndex := 173, attributes := #[] }, { accessFlags := 8, nameIndex := 344, descriptorIndex := 339, attributes := #[] }, { accessFlags := 8, nameIndex := 338, descriptorIndex := 339, attributes := #[] }, { accessFlags := 4120, nameIndex := 245, descriptorIndex := 246, attributes := #[] }])
  fields := #[{ name := "E", type := .double, accessFlags := 25, slot := 0, constantValue := 0 }, { name := "PI", type := .double, accessFlags := 25, slot := 1, constantValue := 0 }, { name := "TAU", type := .double, accessFlags := 25, slot := 2, constantValue := 0 }, { name := "DEGREES_TO_RADIANS", type := .double, accessFlags := 26, slot := 3, constantValue := 0 }, { name := "RADIANS_TO_DEGREES", type := .double, accessFlags := 26, slot := 4, constantValue := 0 }, { name := "negativeZeroFloatBits", type := .long, accessFlags := 26, slot := 5, constantValue := 0 }, { name := "negativeZeroDoubleBits", type := .long, accessFlags := 26, slot := 6, constantValue := 0 }, { name := "twoToTheDoubleScaleUp", type := .double, accessFlags := 8, slot := 7, constantValue := 0 }, { name := "twoToTheDoubleScaleDown", type := .double, accessFlags := 8, slot := 8, constantValue := 0 }, { name := "$assertionsDisabled", type := .boolean, accessFlags := 4120, slot := 9, constantValue := 0 }]
  methods := #[k3m0, k3m1]
  instanceTypes := #[]
  staticTypes := #[.double, .double, .double, .double, .double, .long, .long, .double, .double, .boolean]
  resolved := Array.replicate 460 none
  statics := none }

def pool4 : Array CpInfo := pool [(1, u "java/lang/Cloneable"), (0, .class_ 1), (0, u "java/lang/Object"), (0, .class_ 3)] 3

/-- java/lang/Cloneable -/
def k4 : Class := { plain "java/lang/Cloneable" (some 0) with
  accessFlags := 1537
  interfaces := #[]
  cf := some (fileOf pool4 2 #[] #[] 1537 4 #[] #[])
  fields := #[]
  methods := #[]
  instanceTypes := #[]
  staticTypes := #[]
  resolved := Array.replicate 8 none
  statics := none }

def pool5 : Array CpInfo := pool [(1, u "java/io/Serializable"), (0, .class_ 1), (0, u "java/lang/Object"), (0, .class_ 3)] 3

/-- java/io/Serializable -/
def k5 : Class := { plain "java/io/Serializable" (some 0) with
  accessFlags := 1537
  interfaces := #[]
  cf := some (fileOf pool5 2 #[] #[] 1537 4 #[] #[])
  fields := #[]
  methods := #[]
  instanceTypes := #[]
  staticTypes := #[]
  resolved := Array.replicate 8 none
  statics := none }

/-- the primitive byte -/
def k6 : Class := { plain "byte" none with kind := .primitive 'B', accessFlags := 0x411 }
/-- [B -/
def k7 : Class := { plain "[B" (some 0) with kind := .array 6 .byte, interfaces := #[4, 5], accessFlags := 1041 }

/-- the primitive int -/
def k8 : Class := { plain "int" none with kind := .primitive 'I', accessFlags := 0x411 }
/-- [I -/
def k9 : Class := { plain "[I" (some 0) with kind := .array 8 .int, interfaces := #[4, 5], accessFlags := 1041 }

/-- the primitive double -/
def kD : Class := { plain "double" none with kind := .primitive 'D', accessFlags := 0x411 }
/-- [D -/
def kDs : Class := { plain "[D" (some 0) with kind := .array 10 .double, interfaces := #[4, 5], accessFlags := 1041 }

def heap : Heap := #[]
def classes : Array Class := #[k0, k1, k2, k3, k4, k5, k6, k7, k8, k9, kD, kDs]
def interned : List (Array UInt16 × Addr) := []
def slotsUsed : Nat := 0
def theMethod : MethodId := ⟨1, 1⟩
def args0 : Array Value := #[.int 1, .int 2, .int 3, .int 4, .int 2304]
def aboutOver (below : List Frame) : State where
  vm := { classes := classes, interned := interned.toArray }
  heap := heap
  slotsUsed := slotsUsed
  threads := #[{ frames := .invoking theMethod args0 :: below }]
def below0 : List Frame := [.native { method := ⟨0, 0⟩, args := #[] }]
def about1 : State := aboutOver below0
def p0 : Program := .bare "" "" ""
def e0 : Env := launch0.env 0 0 0
theorem w_frames : about1.frames = Frame.invoking theMethod args0 :: below0 := rfl
set_option maxRecDepth 65536 in
theorem w_args : argsFit about1.vm theMethod args0 = true := by decide +kernel
set_option maxRecDepth 65536 in
theorem w_heap : heapFits about1 = true := by decide +kernel
set_option maxRecDepth 65536 in
theorem w_runnable : about1.curStatus? = some .runnable := by decide +kernel
set_option maxRecDepth 65536 in
theorem w_alone : about1.alone = true := by decide +kernel
set_option maxRecDepth 65536 in
theorem w_named : about1.methodNamed? x = some theMethod := by decide +kernel
set_option maxRecDepth 65536 in
theorem w_hears : about1.hears theMethod below0 = true := by decide +kernel
set_option maxRecDepth 65536 in
theorem w_ripe : about1.ripe theMethod args0 below0 = true := by decide +kernel
theorem w_running : about1.status = .running := rfl
set_option maxRecDepth 65536 in
theorem w_room : about1.hasRoom e0.platform room_1 = true :=
  launch0.hasRoom_least _ room_1 (by decide +kernel) (by decide +kernel) (by decide +kernel) (by decide +kernel) (by decide +kernel) (by decide +kernel)
theorem allAtoms_all (ts : List Jvm.Cond) (a : Array Jvm.Value) (st : Jvm.State) : (allAtoms ts).before a st = ts.all (fun c => c.before a st) := by
  induction ts with
  | nil => rfl
  | cons c t ih =>
    show (Jvm.Cond.and c (allAtoms t)).before a st = _
    rw [Jvm.Cond.before_and, ih, List.all_cons]
def words1 : List Jvm.Cond := Jvm.Cond.code x code maxLocals ret :: tables_1
/-- a 'code' word, met by the world's own term for the bytes: nothing is compared byte by byte -/
theorem code_word {y : MethodName} {bytes : ByteArray} {mx : Nat} {rt : Option FieldType} {a : Array Value} {s : State} {m : MethodId} {meth : Method} {c : Code} (h1 : s.methodNamed? y = some m) (h2 : s.vm.method? m = some meth) (h3 : meth.code = some c) (h4 : c.code = bytes)
    (h5 : (c.maxLocals == mx && c.exceptionTable.isEmpty && decide (c.maxStack ≤ mostOperands) && decide (meth.sig.returnType = rt) && !meth.locks && decide (parseMethodDescriptor y.desc = some meth.sig)) = true) : (Jvm.Cond.code y bytes mx rt).before a s = true := by
  simp only [Bool.and_eq_true, beq_iff_eq, Bool.not_eq_true', decide_eq_true_eq] at h5
  obtain ⟨⟨⟨⟨⟨g1, g2⟩, g3⟩, g4⟩, g5⟩, g6⟩ := h5
  simp [Cond.before, Cond.holds, Cond.value, h1, h2, h3, h4, g1, g2, g3, g4, g5, g6]
def isCode : Jvm.Cond → Bool
  | .code _ _ _ _ => true
  | _ => false
theorem all_split {L : List Jvm.Cond} {P : Jvm.Cond → Bool} (h1 : L.all (fun c => isCode c || P c) = true) (h2 : ∀ c ∈ L.filter isCode, P c = true) : L.all P = true := by
  refine List.all_eq_true.mpr fun c hc => ?_
  have h := List.all_eq_true.mp h1 c hc
  rcases Bool.eq_false_or_eq_true (isCode c) with hi | hi
  · exact h2 c (List.mem_filter.mpr ⟨hc, hi⟩)
  · simpa [hi] using h
set_option maxRecDepth 65536 in
theorem w_c0 : (Jvm.Cond.code x code maxLocals ret).before args0 about1 = true := code_word (m := ⟨1, 1⟩) (meth := k1m1) (c := k1c1) (by decide +kernel) rfl rfl rfl (by decide +kernel)
set_option maxRecDepth 65536 in
theorem w_c1 : (Jvm.Cond.code ({ cls := "com/example/wayfold/wayfold/engine/DayTiming$Timeline", name := "<init>", desc := "(I)V" } : Jvm.MethodName) prog_4_method_1_code (2 : Nat) (Option.none : Option Jvm.ClassFile.FieldType)).before args0 about1 = true := code_word (m := ⟨2, 0⟩) (meth := k2m0) (c := k2c0) (by decide +kernel) rfl rfl rfl (by decide +kernel)
set_option maxRecDepth 65536 in
theorem w_c2 : (Jvm.Cond.code ({ cls := "java/lang/Object", name := "<init>", desc := "()V" } : Jvm.MethodName) object_method_1_code (1 : Nat) (Option.none : Option Jvm.ClassFile.FieldType)).before args0 about1 = true := code_word (m := ⟨0, 0⟩) (meth := k0m0) (c := k0c0) (by decide +kernel) rfl rfl rfl (by decide +kernel)
set_option maxRecDepth 65536 in
theorem w_c3 : (Jvm.Cond.code ({ cls := "com/example/wayfold/wayfold/engine/DayTiming$Timeline", name := "shared", desc := "([II)I" } : Jvm.MethodName) prog_4_method_3_code (5 : Nat) (Option.some Jvm.ClassFile.FieldType.int)).before args0 about1 = true := code_word (m := ⟨2, 1⟩) (meth := k2m1) (c := k2c1) (by decide +kernel) rfl rfl rfl (by decide +kernel)
set_option maxRecDepth 65536 in
theorem w_c4 : (Jvm.Cond.code ({ cls := "java/lang/Math", name := "min", desc := "(II)I" } : Jvm.MethodName) jdk_29_method_69_code (2 : Nat) (Option.some Jvm.ClassFile.FieldType.int)).before args0 about1 = true := code_word (m := ⟨3, 1⟩) (meth := k3m1) (c := k3c1) (by decide +kernel) rfl rfl rfl (by decide +kernel)
def codes1 : List Jvm.Cond := [Jvm.Cond.code x code maxLocals ret, Jvm.Cond.code ({ cls := "com/example/wayfold/wayfold/engine/DayTiming$Timeline", name := "<init>", desc := "(I)V" } : Jvm.MethodName) prog_4_method_1_code (2 : Nat) (Option.none : Option Jvm.ClassFile.FieldType), Jvm.Cond.code ({ cls := "java/lang/Object", name := "<init>", desc := "()V" } : Jvm.MethodName) object_method_1_code (1 : Nat) (Option.none : Option Jvm.ClassFile.FieldType), Jvm.Cond.code ({ cls := "com/example/wayfold/wayfold/engine/DayTiming$Timeline", name := "shared", desc := "([II)I" } : Jvm.MethodName) prog_4_method_3_code (5 : Nat) (Option.some Jvm.ClassFile.FieldType.int), Jvm.Cond.code ({ cls := "java/lang/Math", name := "min", desc := "(II)I" } : Jvm.MethodName) jdk_29_method_69_code (2 : Nat) (Option.some Jvm.ClassFile.FieldType.int)]
set_option maxRecDepth 65536 in
theorem codes_eq : words1.filter isCode = codes1 := rfl
theorem w_codes : ∀ c ∈ words1.filter isCode, c.before args0 about1 = true := by
  rw [codes_eq]
  intro c hc
  simp only [codes1, List.mem_cons, List.not_mem_nil, or_false] at hc
  rcases hc with rfl | rfl | rfl | rfl | rfl
  · exact w_c0
  · exact w_c1
  · exact w_c2
  · exact w_c3
  · exact w_c4
set_option maxRecDepth 65536 in
theorem w_t1 : (words1.take 24).all (fun c => isCode c || c.before args0 about1) = true := by decide +kernel
set_option maxRecDepth 65536 in
theorem w_t2 : (words1.drop 24).all (fun c => isCode c || c.before args0 about1) = true := by decide +kernel
theorem w_tables : (allAtoms (Jvm.Cond.code x code maxLocals ret :: tables_1)).before args0 about1 = true := by
  rw [allAtoms_all]
  show words1.all (fun c => c.before args0 about1) = true
  refine all_split ?_ w_codes
  rw [← List.take_append_drop 24 words1, List.all_append, w_t1, w_t2]
  rfl
set_option maxRecDepth 65536 in
theorem w_case : (Jvm.Cond.and given_1 narrow_1).before args0 about1 = true := by decide +kernel
theorem w_applies : (headSpec (Jvm.Cond.code x code maxLocals ret :: tables_1) room_1).applies x e0.platform about1 = true :=
  (Spec.applies_iff w_frames).mpr ⟨w_running, w_runnable, w_alone, w_named, w_hears, w_ripe, w_room, w_tables⟩
theorem atStart : AtStart classFile x code maxLocals ret World_1 tables_1 room_1 Calls_1 rest_1 Pre_1 launch0 p0 e0 about1 theMethod args0 below0 :=
  ⟨lists_1, trivial, launch0.admits_env _ _ _, launch0.least_env, fairChoices_fair.cas, fairChoices_fair.clock, w_frames, w_args, w_heap, w_applies, trivial, trivial, w_case⟩
end start1
theorem witness_1 : WitnessClaimed_1 := ⟨start1.p0, start1.e0, start1.about1, start1.theMethod, start1.args0, start1.below0, start1.atStart⟩
end Jvm.Pilot.@@N@@
