import JvmDerived
import JvmDerived.Pilot.@@N@@Statement
import JvmDerived.Pilot.@@N@@Code
set_option linter.unusedVariables false
set_option linter.unusedSimpArgs false
@@BLOCK:NumsL.lean.txt@@
namespace Jvm.Pilot.@@N@@
open Jvm Jvm.ClassFile Sem Op Lib Jvm.Free Jvm.Stand Jvm.LawKit Jvm.RoadKit Bundle Jvm.Pilot.@@N@@.Jvm.D
section OwnKit
variable {p : Program} {l : Launch} {e : Env} {R : Room} {s : State} {m : MethodId} {args : Array Value} {below : List Frame} {meth : Method} {c : Code} {T T' : State} {locs : List Loc} {cells slots : Nat} {Q : Option Value → Heap → List Loc → Prop} {k n : Nat} {Fin : Outcome → State → Prop} {Z : State} {a0 : Array Value} {h : Heap} {pc : Nat} {Ls : Array Slot} {rest : List Value}
/-- from this frame on the body ends as Fin says -/
def own_Go (p : Program) (e : Env) (below : List Frame) (Fin : Outcome → State → Prop) (T : State) (f : JFrame) : Prop :=
  ∃ s₂ o, Steps p.tables e below (T.setTop f) s₂ ∧ s₂.status = .running ∧ Ended s₂ below o ∧ Fin o s₂
/-- it returned, as Q says; the frame as ever -/
def own_Fin (s : State) (Q : Option Value → Heap → List Loc → Prop) (k n : Nat) (o : Outcome) (t : State) : Prop := ∃ v L, o = .returned v ∧ Q v t.heap L ∧ FrameEnd s o t L k n
/-- it returned, as Q says; String constants may have been resolved -/
def own_FinW (s : State) (Q : Option Value → Heap → List Loc → Prop) (k n : Nat) (o : Outcome) (t : State) : Prop := ∃ v L, o = .returned v ∧ Q v t.heap L ∧ ReturnedEndW s o t L k n
theorem own_by {f f' : JFrame} (st : ∀ t, Steps p.tables e below (T'.setTop f') t → Steps p.tables e below (T.setTop f) t) (g : own_Go p e below Fin T' f') : own_Go p e below Fin T f := by
  obtain ⟨s₂, o, h, r⟩ := g
  exact ⟨s₂, o, st _ h, r⟩
theorem own_start {f f' : JFrame} (q : f = f') (g : own_Go p e below (own_Fin s Q k n) T f') : ∃ s₂ o, Steps p.tables e below (T.setTop f) s₂ ∧ s₂.status = .running ∧ Ended s₂ below o ∧ ∃ v L, o = .returned v ∧ Q v s₂.heap L ∧ FrameEnd s o s₂ L k n := by
  subst q; exact g
theorem own_startW {f f' : JFrame} (q : f = f') (g : own_Go p e below (own_FinW s Q k n) T f') : ∃ s₂ o, Steps p.tables e below (T.setTop f) s₂ ∧ s₂.status = .running ∧ Ended s₂ below o ∧ ∃ v L, o = .returned v ∧ Q v s₂.heap L ∧ ReturnedEndW s o s₂ L k n := by
  subst q; exact g
theorem own_ret (X : Stand p l e R s m args below meth c T locs cells slots) (hx : p.tables.exec = Jvm.exec) (hlk : meth.locks = false) {w : Value} {t : FieldType} {i : Instr} (hret : meth.sig.returnType = some t)
    (hi : (i = .ireturn ∧ (t = .int ∨ t = .boolean ∨ t = .byte ∨ t = .char ∨ t = .short) ∧ ∃ z, w = .int z) ∨ (i = .lreturn ∧ t = .long ∧ ∃ z, w = .long z) ∨ (i = .dreturn ∧ t = .double ∧ ∃ z, w = .double z) ∨ (i = .freturn ∧ t = .float ∧ ∃ z, w = .float z) ∨ (i = .areturn ∧ t.isReference = true ∧ w.isRef = true))
    (hn : narrow t w = w) (hd : decode c.code pc = .ok (i, 1)) (eT : T.heap = h) (hk : cells ≤ k) (hs : slots ≤ n) (q : Q (some w) h locs) : own_Go p e below (own_Fin s Q k n) T (mkF m pc Ls (w :: rest)) := by
  obtain ⟨fs, hr, hrun, hended, hW, hsame⟩ := X.leave (v := some w) (fun h => by rw [hret] at h; cases h) hlk
  refine ⟨_, _, retOut X hx hret hn hi hd hr, hrun, hended, _, _, rfl, ?_, ⟨_, rfl⟩, hW, hsame.mono hk hs⟩
  show Q _ T.heap _
  rw [eT]; exact q
theorem own_retI (X : Stand p l e R s m args below meth c T locs cells slots) (hx : p.tables.exec = Jvm.exec) (hlk : meth.locks = false) {z : Int32} (hret : meth.sig.returnType = some .int) (hd : decode c.code pc = .ok (.ireturn, 1)) (eT : T.heap = h) (hk : cells ≤ k) (hs : slots ≤ n) (q : Q (some (.int z)) h locs) : own_Go p e below (own_Fin s Q k n) T (mkF m pc Ls (.int z :: rest)) :=
  own_ret X hx hlk hret (Or.inl ⟨rfl, Or.inl rfl, z, rfl⟩) rfl hd eT hk hs q
theorem own_retZ (X : Stand p l e R s m args below meth c T locs cells slots) (hx : p.tables.exec = Jvm.exec) (hlk : meth.locks = false) {z : Int32} (hret : meth.sig.returnType = some .boolean) (hz : z = 0 ∨ z = 1) (hd : decode c.code pc = .ok (.ireturn, 1)) (eT : T.heap = h) (hk : cells ≤ k) (hs : slots ≤ n) (q : Q (some (.int z)) h locs) : own_Go p e below (own_Fin s Q k n) T (mkF m pc Ls (.int z :: rest)) :=
  own_ret X hx hlk hret (Or.inl ⟨rfl, Or.inr (Or.inl rfl), z, rfl⟩) (by rcases hz with rfl | rfl <;> rfl) hd eT hk hs q
theorem own_retJ (X : Stand p l e R s m args below meth c T locs cells slots) (hx : p.tables.exec = Jvm.exec) (hlk : meth.locks = false) {z : Int64} (hret : meth.sig.returnType = some .long) (hd : decode c.code pc = .ok (.lreturn, 1)) (eT : T.heap = h) (hk : cells ≤ k) (hs : slots ≤ n) (q : Q (some (.long z)) h locs) : own_Go p e below (own_Fin s Q k n) T (mkF m pc Ls (.long z :: rest)) :=
  own_ret X hx hlk hret (Or.inr (Or.inl ⟨rfl, rfl, z, rfl⟩)) rfl hd eT hk hs q
theorem own_retR (X : Stand p l e R s m args below meth c T locs cells slots) (hx : p.tables.exec = Jvm.exec) (hlk : meth.locks = false) {w : Value} {t : FieldType} (hret : meth.sig.returnType = some t) (ht : t.isReference = true) (hw : w.isRef = true) (hn : narrow t w = w) (hd : decode c.code pc = .ok (.areturn, 1)) (eT : T.heap = h) (hk : cells ≤ k) (hs : slots ≤ n) (q : Q (some w) h locs) : own_Go p e below (own_Fin s Q k n) T (mkF m pc Ls (w :: rest)) :=
  own_ret X hx hlk hret (Or.inr (Or.inr (Or.inr (Or.inr ⟨rfl, ht, hw⟩)))) hn hd eT hk hs q
theorem own_retV (X : Stand p l e R s m args below meth c T locs cells slots) (hx : p.tables.exec = Jvm.exec) (hlk : meth.locks = false) (hret : meth.sig.returnType = none) (hd : decode c.code pc = .ok (.return_, 1)) (eT : T.heap = h) (hk : cells ≤ k) (hs : slots ≤ n) (q : Q none h locs) : own_Go p e below (own_Fin s Q k n) T (mkF m pc Ls []) := by
  obtain ⟨fs, hr, hrun, hended, hW, hsame⟩ := X.leave (v := none) (fun _ => rfl) hlk
  refine ⟨_, _, X.returnOut hx hret hd hr, hrun, hended, _, _, rfl, ?_, ⟨_, rfl⟩, hW, hsame.mono hk hs⟩
  show Q _ T.heap _
  rw [eT]; exact q
/-- a conditional branch as a plain comparison -/
def own_cnd : ClassFile.Cond → Int32 → Int32 → Prop
  | .eq, x, y => x = y
  | .ne, x, y => ¬ x = y
  | .lt, x, y => x < y
  | .ge, x, y => ¬ x < y
  | .gt, x, y => y < x
  | .le, x, y => ¬ y < x
def own_neg : ClassFile.Cond → ClassFile.Cond
  | .eq => .ne
  | .ne => .eq
  | .lt => .ge
  | .ge => .lt
  | .gt => .le
  | .le => .gt
theorem own_holds (cd : ClassFile.Cond) (x y : Int32) : (if_icmp.holds cd x y = true ∧ own_cnd cd x y) ∨ (if_icmp.holds cd x y = false ∧ own_cnd (own_neg cd) x y) := by
  cases cd
  case eq => by_cases q : x = y; · exact Or.inl ⟨(teq q).1, q⟩
             · exact Or.inr ⟨(feq q).1, q⟩
  case ne => by_cases q : x = y; · exact Or.inr ⟨(teq q).2, q⟩
             · exact Or.inl ⟨(feq q).2, q⟩
  case lt => by_cases q : x < y; · exact Or.inl ⟨(tlt q).1, q⟩
             · exact Or.inr ⟨(flt q).1, q⟩
  case ge => by_cases q : x < y; · exact Or.inr ⟨(tlt q).2.1, q⟩
             · exact Or.inl ⟨(flt q).2.1, q⟩
  case gt => by_cases q : y < x; · exact Or.inl ⟨(tlt q).2.2.1, q⟩
             · exact Or.inr ⟨(flt q).2.2.1, q⟩
  case le => by_cases q : y < x; · exact Or.inr ⟨(tlt q).2.2.2, q⟩
             · exact Or.inl ⟨(flt q).2.2.2, q⟩
theorem own_icmp (X : Stand p l e R s m args below meth c T locs cells slots) (hx : p.tables.exec = Jvm.exec) {cd : ClassFile.Cond} {x y : Int32} {o : Int} (pc' : Nat) (hd : decode c.code pc = .ok (.if_icmp cd o, 3)) (ho : 0 ≤ (pc : Int) + o) (hp : ((pc : Int) + o).toNat = pc')
    (g1 : own_cnd cd x y → own_Go p e below Fin T (mkF m pc' Ls rest)) (g2 : own_cnd (own_neg cd) x y → own_Go p e below Fin T (mkF m (pc + 3) Ls rest)) : own_Go p e below Fin T (mkF m pc Ls (.int y :: .int x :: rest)) := by
  rcases own_holds cd x y with ⟨q, q'⟩ | ⟨q, q'⟩
  · exact own_by (fun t kk => XS.icmpYes X.here hx rfl (pc0 := pc) (pc' := pc') rfl hd rfl q ho hp kk) (g1 q')
  · exact own_by (fun t kk => XS.icmpNo X.here hx rfl hd rfl q kk) (g2 q')
theorem own_if (X : Stand p l e R s m args below meth c T locs cells slots) (hx : p.tables.exec = Jvm.exec) {cd : ClassFile.Cond} {x : Int32} {o : Int} (pc' : Nat) (hd : decode c.code pc = .ok (.ifCond cd o, 3)) (ho : 0 ≤ (pc : Int) + o) (hp : ((pc : Int) + o).toNat = pc')
    (g1 : own_cnd cd x 0 → own_Go p e below Fin T (mkF m pc' Ls rest)) (g2 : own_cnd (own_neg cd) x 0 → own_Go p e below Fin T (mkF m (pc + 3) Ls rest)) : own_Go p e below Fin T (mkF m pc Ls (.int x :: rest)) := by
  rcases own_holds cd x 0 with ⟨q, q'⟩ | ⟨q, q'⟩
  · exact own_by (fun t kk => XS.ifYes X.here hx rfl (pc0 := pc) (pc' := pc') rfl hd rfl ((if0 _ _).trans q) ho hp kk) (g1 q')
  · exact own_by (fun t kk => XS.ifNo X.here hx rfl hd rfl ((if0 _ _).trans q) kk) (g2 q')
/-- a static call by the callee's contract -/
theorem own_callS (X : Stand p l e R s m args below meth c T locs cells slots) (hx : p.tables.exec = Jvm.exec) (hZ : Z.Warmed39 s.vm) {own : String} {index : Nat} {y : MethodName} {bytes : ByteArray} {maxL W : Nat} {ret : Option FieldType} {rm : Room} {Qc : Option Value → Heap → List Loc → Prop}
    (hown : s.vm.findClass own = some m.cls) (w1 : (Cond.methodLink own index y).before a0 Z = true) (w2 : (Cond.static y).before a0 Z = true) (w3 : (Cond.initialized y.cls).before a0 Z = true) (w4 : (Cond.code y bytes maxL ret).before a0 Z = true)
    (hy : y.cls ≠ "java/lang/invoke/MethodHandle" ∧ y.cls ≠ "java/lang/invoke/VarHandle") (hml : Ls.size = c.maxLocals) {argsL : List Value} {ps : List FieldType} {rt : Option FieldType} (pd : parseMethodDescriptor y.desc = some ⟨ps, rt⟩) (hlen : argsL.length = ps.length)
    (hM : MetFree l y (head1 [Cond.code y bytes maxL ret] rm) (fun a U => a = argsL.toArray ∧ Z.Warmed39 U.vm ∧ U.heap = h) (fun _ _ _ _ _ => True) (fun _ U o U' => ∃ v L, o = .returned v ∧ Qc v U'.heap L ∧ FrameEnd U o U' L rm.cells rm.slots))
    (hf : rm.frames + 1 ≤ R.frames) (hl : W + (maxL + 11) + rm.locals ≤ R.locals) (hW : (rest.map fun v => v.category).sum ≤ W) (hc : cells + rm.cells ≤ R.cells) (hs : slots + rm.slots ≤ R.slots) (eT : T.heap = h) {st : List Value} (hst : st = argsL.reverse ++ rest) (hd : decode c.code pc = .ok (.invokestatic index, 3))
    (g : ∀ (v : Option Value) (T' : State) (L : List Loc), Stand p l e R s m args below meth c T' (locs ++ L) (cells + rm.cells) (slots + rm.slots) → Qc v T'.heap L → own_Go p e below Fin T' (mkF m (pc + 3) Ls (v.toList ++ rest))) :
    own_Go p e below Fin T (mkF m pc Ls st) := by
  subst hst
  obtain ⟨v, _, ⟨T2, L2, k2, n2⟩, -, X2, ⟨Lc2, hQ2, l2, y2, z2⟩, st2⟩ := Jvm.LawKit.callS X hx (y := y) hown (mvT hZ w1) (mvT hZ w2) (mvT hZ w3) (mvT hZ w4) hy (backOf (W := W) hM hZ w4 w3 hf hl) (g := (mkF m pc Ls (argsL.reverse ++ rest))) rfl hml (argsL := argsL) (rest := rest) (lenOf pd hlen) rfl (by show 2 * 0 + _ ≤ _; omega) hd (fun _ _ => ⟨rfl, eT, hc, hs⟩)
  dsimp only [Pt.U, Pt.locs, Pt.cells, Pt.slots] at X2 l2 y2 z2 st2 hQ2
  subst l2 y2 z2
  exact own_by (fun t kk => st2 _ kk) (g v T2 Lc2 X2 hQ2)
/-- a constructor by its contract -/
theorem own_callC (X : Stand p l e R s m args below meth c T locs cells slots) (hx : p.tables.exec = Jvm.exec) (hZ : Z.Warmed39 s.vm) {own : String} {index : Nat} {y : MethodName} {bytes : ByteArray} {maxL W : Nat} {rm : Room} {Qc : Option Value → Heap → List Loc → Prop} (hy1 : y.name = "<init>")
    (hown : s.vm.findClass own = some m.cls) (w1 : (Cond.methodLink own index y).before a0 Z = true) (w2 : (Cond.instanceMethod y).before a0 Z = true) (w3 : (Cond.initialized y.cls).before a0 Z = true) (w4 : (Cond.code y bytes maxL none).before a0 Z = true)
    (hy : y.cls ≠ "java/lang/invoke/MethodHandle" ∧ y.cls ≠ "java/lang/invoke/VarHandle") (hml : Ls.size = c.maxLocals) {a : Addr} {argsL : List Value} {ps : List FieldType} {rt : Option FieldType} (pd : parseMethodDescriptor y.desc = some ⟨ps, rt⟩) (hlen : argsL.length = ps.length)
    (hM : MetFree l y (head1 [Cond.code y bytes maxL none] rm) (fun b U => b = (.ref a :: argsL).toArray ∧ Z.Warmed39 U.vm ∧ U.heap = h) (fun _ _ _ _ _ => True) (fun _ U o U' => ∃ v L, o = .returned v ∧ Qc v U'.heap L ∧ FrameEnd U o U' L rm.cells rm.slots))
    (hf : rm.frames + 1 ≤ R.frames) (hl : W + (maxL + 11) + rm.locals ≤ R.locals) (hW : (rest.map fun v => v.category).sum ≤ W) (hc : cells + rm.cells ≤ R.cells) (hs : slots + rm.slots ≤ R.slots) (eT : T.heap = h) {st : List Value} (hst : st = argsL.reverse ++ .ref a :: rest) (hd : decode c.code pc = .ok (.invokespecial index, 3))
    (g : ∀ (v : Option Value) (T' : State) (L : List Loc), Stand p l e R s m args below meth c T' (locs ++ L) (cells + rm.cells) (slots + rm.slots) → Qc v T'.heap L → own_Go p e below Fin T' (mkF m (pc + 3) Ls (v.toList ++ rest))) :
    own_Go p e below Fin T (mkF m pc Ls st) := by
  subst hst
  obtain ⟨v, _, ⟨T2, L2, k2, n2⟩, -, X2, ⟨Lc2, hQ2, l2, y2, z2⟩, st2⟩ := X.specialBack hx (y := y) hy1 hown (mvT hZ w1) (mvT hZ w2) (mvT hZ w4) hy (backOf (W := W) hM hZ w4 w3 hf hl) (g := (mkF m pc Ls (argsL.reverse ++ .ref a :: rest))) rfl hml (Steps.refl _) (a := a) (argsL := argsL) (rest := rest) (lenOf pd hlen) rfl (by show 2 * 0 + _ ≤ _; omega) hd (fun _ _ => ⟨rfl, eT, hc, hs⟩)
  dsimp only [Pt.U, Pt.locs, Pt.cells, Pt.slots] at X2 l2 y2 z2 st2 hQ2
  subst l2 y2 z2
  exact own_by (fun t kk => st2.trans kk) (g v T2 Lc2 X2 hQ2)
/-- an instance method of the receiver's own class by its contract -/
theorem own_callV (X : Stand p l e R s m args below meth c T locs cells slots) (hx : p.tables.exec = Jvm.exec) (hZ : Z.Warmed39 s.vm) {own C : String} {index : Nat} {y z : MethodName} {bytes : ByteArray} {maxL W : Nat} {ret : Option FieldType} {rm : Room} {Qc : Option Value → Heap → List Loc → Prop}
    (hown : s.vm.findClass own = some m.cls) (w1 : (Cond.methodLink own index y).before a0 Z = true) (wd : (Cond.declares y).before a0 Z = true) (nf : NotFace s y) (ws : (Cond.selects C y z).before a0 Z = true) (w2 : (Cond.instanceMethod z).before a0 Z = true) (w3 : (Cond.initialized z.cls).before a0 Z = true) (w4 : (Cond.code z bytes maxL ret).before a0 Z = true)
    (hy : y.cls ≠ "java/lang/invoke/MethodHandle" ∧ y.cls ≠ "java/lang/invoke/VarHandle") (hml : Ls.size = c.maxLocals) {a : Addr} {argsL : List Value} {ps : List FieldType} {rt : Option FieldType} (pd : parseMethodDescriptor y.desc = some ⟨ps, rt⟩) (hlen : argsL.length = ps.length)
    (eT : T.heap = h) (E : Exa Z h a C)
    (hM : MetFree l z (head1 [Cond.code z bytes maxL ret] rm) (fun b U => b = (.ref a :: argsL).toArray ∧ Z.Warmed39 U.vm ∧ U.heap = h) (fun _ _ _ _ _ => True) (fun _ U o U' => ∃ v L, o = .returned v ∧ Qc v U'.heap L ∧ FrameEnd U o U' L rm.cells rm.slots))
    (hf : rm.frames + 1 ≤ R.frames) (hl : W + (maxL + 11) + rm.locals ≤ R.locals) (hW : (rest.map fun v => v.category).sum ≤ W) (hc : cells + rm.cells ≤ R.cells) (hs : slots + rm.slots ≤ R.slots) {st : List Value} (hst : st = argsL.reverse ++ .ref a :: rest) (hd : decode c.code pc = .ok (.invokevirtual index, 3))
    (g : ∀ (v : Option Value) (T' : State) (L : List Loc), Stand p l e R s m args below meth c T' (locs ++ L) (cells + rm.cells) (slots + rm.slots) → Qc v T'.heap L → own_Go p e below Fin T' (mkF m (pc + 3) Ls (v.toList ++ rest))) :
    own_Go p e below Fin T (mkF m pc Ls st) := by
  subst hst
  obtain ⟨cq, kq, qa, qb, qc⟩ := isOf hZ eT E
  obtain ⟨v, _, ⟨T2, L2, k2, n2⟩, -, X2, ⟨Lc2, hQ2, l2, y2, z2⟩, st2⟩ := X.virtualBack hx (y := y) (z := z) hown (mvT hZ w1) (mvT hZ wd) nf (mvT hZ ws) (mvT hZ w2) hy (backOf (W := W) hM hZ w4 w3 hf hl) qa qc (g := (mkF m pc Ls (argsL.reverse ++ .ref a :: rest))) rfl hml (Steps.refl _) (argsL := argsL) (rest := rest) (lenOf pd hlen) rfl (by show 2 * 0 + _ ≤ _; omega) hd (fun _ _ => ⟨rfl, eT, hc, hs⟩)
  dsimp only [Pt.U, Pt.locs, Pt.cells, Pt.slots] at X2 l2 y2 z2 st2 hQ2
  subst l2 y2 z2
  exact own_by (fun t kk => st2.trans kk) (g v T2 Lc2 X2 hQ2)
theorem own_getF (X : Stand p l e R s m args below meth c T locs cells slots) (hx : p.tables.exec = Jvm.exec) (hZ : Z.Warmed39 s.vm) {own R0 O nm d : String} {index : Nat} (hown : s.vm.findClass own = some m.cls) (w : (Cond.fieldLink own index R0 nm d).before a0 Z = true) (via : Via Z R0 O nm d) (eT : T.heap = h) {a : Addr} {v : Value} (F : Fld Z h a O nm d v) (hd : decode c.code pc = .ok (.getfield index, 3))
    (g : ∀ T', Stand p l e R s m args below meth c T' locs cells slots → T'.heap = h → own_Go p e below Fin T' (mkF m (pc + 3) Ls (v :: rest))) : own_Go p e below Fin T (mkF m pc Ls (.ref a :: rest)) := by
  obtain ⟨T', X', e', st⟩ := getF X hx hZ hown (host := "") (Or.inl w) via eT F (g := mkF m pc Ls (.ref a :: rest)) rfl rfl hd
  exact own_by (fun t kk => st _ kk) (g T' X' e')
theorem own_getFN (X : Stand p l e R s m args below meth c T locs cells slots) (hx : p.tables.exec = Jvm.exec) (hZ : Z.Warmed39 s.vm) {own R0 O nm d host : String} {index : Nat} (hown : s.vm.findClass own = some m.cls) (w : (Cond.fieldLinkNest own index R0 nm d host).before a0 Z = true) (via : Via Z R0 O nm d) (eT : T.heap = h) {a : Addr} {v : Value} (F : Fld Z h a O nm d v) (hd : decode c.code pc = .ok (.getfield index, 3))
    (g : ∀ T', Stand p l e R s m args below meth c T' locs cells slots → T'.heap = h → own_Go p e below Fin T' (mkF m (pc + 3) Ls (v :: rest))) : own_Go p e below Fin T (mkF m pc Ls (.ref a :: rest)) := by
  obtain ⟨T', X', e', st⟩ := getF X hx hZ hown (Or.inr w) via eT F (g := mkF m pc Ls (.ref a :: rest)) rfl rfl hd
  exact own_by (fun t kk => st _ kk) (g T' X' e')
theorem own_getS (X : Stand p l e R s m args below meth c T locs cells slots) (hx : p.tables.exec = Jvm.exec) (hZ : Z.Warmed39 s.vm) {own R0 O nm d : String} {index : Nat} (hown : s.vm.findClass own = some m.cls) (w : (Cond.fieldLink own index R0 nm d).before a0 Z = true) (via : Via Z R0 O nm d) (eT : T.heap = h) {v : Value} (F : Sta Z h O nm d v) (hd : decode c.code pc = .ok (.getstatic index, 3)) {st0 : List Value}
    (g : ∀ T', Stand p l e R s m args below meth c T' locs cells slots → T'.heap = h → own_Go p e below Fin T' (mkF m (pc + 3) Ls (v :: st0))) : own_Go p e below Fin T (mkF m pc Ls st0) := by
  obtain ⟨T', X', e', st⟩ := getS2 X hx hZ hown (host := "") (Or.inl w) via eT F (g := mkF m pc Ls st0) rfl hd
  exact own_by (fun t kk => st _ kk) (g T' X' e')
theorem own_getSN (X : Stand p l e R s m args below meth c T locs cells slots) (hx : p.tables.exec = Jvm.exec) (hZ : Z.Warmed39 s.vm) {own R0 O nm d host : String} {index : Nat} (hown : s.vm.findClass own = some m.cls) (w : (Cond.fieldLinkNest own index R0 nm d host).before a0 Z = true) (via : Via Z R0 O nm d) (eT : T.heap = h) {v : Value} (F : Sta Z h O nm d v) (hd : decode c.code pc = .ok (.getstatic index, 3)) {st0 : List Value}
    (g : ∀ T', Stand p l e R s m args below meth c T' locs cells slots → T'.heap = h → own_Go p e below Fin T' (mkF m (pc + 3) Ls (v :: st0))) : own_Go p e below Fin T (mkF m pc Ls st0) := by
  obtain ⟨T', X', e', st⟩ := getS2 X hx hZ hown (Or.inr w) via eT F (g := mkF m pc Ls st0) rfl hd
  exact own_by (fun t kk => st _ kk) (g T' X' e')
theorem own_putF (X : Stand p l e R s m args below meth c T locs cells slots) (hx : p.tables.exec = Jvm.exec) (hZ : Z.Warmed39 s.vm) {own R0 O nm d C : String} {index kk : Nat} {ty : FieldType} (hown : s.vm.findClass own = some m.cls) (w : (Cond.fieldLink own index R0 nm d).before a0 Z = true) (via : Via Z R0 O nm d) (eT : T.heap = h) {a : Addr} {v old : Value} (F : Fld Z h a O nm d old) (E : Exa Z h a C)
    (L : (Cond.lays C O nm d).before a0 Z = true ∨ ((Cond.laysFinal C O nm d).before a0 Z = true ∧ own = O ∧ meth.name = "<init>")) (wi : (Cond.instantiable C kk).before a0 Z = true) (hty : parseFieldDescriptor d = some ty) (hn : narrow ty v = v) (hf : fits ty v = true) (hd : decode c.code pc = .ok (.putfield index, 3))
    (g : ∀ T' h', Stand p l e R s m args below meth c T' (locs ++ [⟨a, Jvm.RoadKit.slotOf Z O nm d⟩]) cells slots → T'.heap = h' → Wr h h' a (Jvm.RoadKit.slotOf Z O nm d) v → own_Go p e below Fin T' (mkF m (pc + 3) Ls rest)) : own_Go p e below Fin T (mkF m pc Ls (v :: .ref a :: rest)) := by
  obtain ⟨T', h', X', e', W', st⟩ := putF X hx hZ hown (host := "") (Or.inl w) via eT F E L wi hty hn hf (g := mkF m pc Ls (v :: .ref a :: rest)) rfl rfl hd
  exact own_by (fun t kk => st _ kk) (g T' h' X' e' W')
theorem own_newO (X : Stand p l e R s m args below meth c T locs cells slots) (hx : p.tables.exec = Jvm.exec) (hZ : Z.Warmed39 s.vm) {own C : String} {index nn : Nat} (hown : s.vm.findClass own = some m.cls) (w : (Cond.classLink own index C).before a0 Z = true) (wi : (Cond.instantiable C nn).before a0 Z = true) (wz : (Cond.initialized C).before a0 Z = true) (eT : T.heap = h) (hd : decode c.code pc = .ok (.new index, 3)) (hc : cells + 1 ≤ R.cells) (hl : slots + nn ≤ R.slots) {st0 : List Value}
    (g : ∀ T' h' (b : Addr), Stand p l e R s m args below meth c T' locs (cells + 1) (slots + nn) → T'.heap = h' → b = h.size → Ext h h' → Exa Z h' b C → (∀ {O nm d : String} {ty : FieldType}, Laid Z a0 C O nm d → parseFieldDescriptor d = some ty → Fld Z h' b O nm d (defaultValue ty)) → own_Go p e below Fin T' (mkF m (pc + 3) Ls (.ref b :: st0))) : own_Go p e below Fin T (mkF m pc Ls st0) := by
  obtain ⟨T', h', X', e', E', A', D', -, st⟩ := newO X hx hZ hown w wi wz eT (g := mkF m pc Ls st0) rfl hd hc hl
  exact own_by (fun t kk => st _ kk) (g T' h' _ X' e' rfl E' A' D')
theorem own_initO (X : Stand p l e R s m args below meth c T locs cells slots) (hx : p.tables.exec = Jvm.exec) (hZ : Z.Warmed39 s.vm) {own : String} {idx : Nat} (hown : s.vm.findClass own = some m.cls) (w1 : (Cond.methodLink own idx Lib.objectInit).before a0 Z = true) (w2 : (Cond.instanceMethod Lib.objectInit).before a0 Z = true) (w3 : (Cond.code Lib.objectInit ⟨#[0xb1]⟩ 1 none).before a0 Z = true) (eT : T.heap = h) (hml : Ls.size = c.maxLocals) {a : Addr} (hd : decode c.code pc = .ok (.invokespecial idx, 3)) (hf : 1 ≤ R.frames) {W : Nat} (hW : (rest.map fun v => v.category).sum ≤ W) (hl : W + 12 ≤ R.locals)
    (g : ∀ T', Stand p l e R s m args below meth c T' locs cells slots → T'.heap = h → own_Go p e below Fin T' (mkF m (pc + 3) Ls rest)) : own_Go p e below Fin T (mkF m pc Ls (.ref a :: rest)) := by
  obtain ⟨T', X', e', st⟩ := initO X hx hZ hown w1 w2 w3 eT (g := mkF m pc Ls (.ref a :: rest)) rfl hml rfl hd hf (W := W) (by show 2 * 0 + _ ≤ _; omega) hl
  exact own_by (fun t kk => st _ kk) (g T' X' e')
end OwnKit
section OwnMore
variable {p : Program} {l : Launch} {e : Env} {R : Room} {s : State} {m : MethodId} {args : Array Value} {below : List Frame} {meth : Method} {c : Code} {T T' : State} {locs : List Loc} {cells slots : Nat} {Q : Option Value → Heap → List Loc → Prop} {k n : Nat} {Fin : Outcome → State → Prop} {Z : State} {a0 : Array Value} {h : Heap} {pc : Nat} {Ls : Array Slot} {rest : List Value}
theorem own_acmpEq (X : Stand p l e R s m args below meth c T locs cells slots) (hx : p.tables.exec = Jvm.exec) {a b : Addr} {o : Int} (pc' : Nat) (hd : decode c.code pc = .ok (.if_acmp .eq o, 3)) (ho : 0 ≤ (pc : Int) + o) (hp : ((pc : Int) + o).toNat = pc')
    (g1 : a = b → own_Go p e below Fin T (mkF m pc' Ls rest)) (g2 : ¬ a = b → own_Go p e below Fin T (mkF m (pc + 3) Ls rest)) : own_Go p e below Fin T (mkF m pc Ls (.ref b :: .ref a :: rest)) := by
  by_cases q : a = b
  · exact own_by (fun t kk => XT.acmpYes X.here hx rfl (pc0 := pc) (pc' := pc') rfl hd rfl rfl rfl (decide_eq_true (congrArg Value.ref q)) ho hp kk) (g1 q)
  · exact own_by (fun t kk => XT.acmpNo X.here hx rfl hd rfl rfl rfl (decide_eq_false fun z => q (Value.ref.inj z)) kk) (g2 q)
theorem own_acmpNe (X : Stand p l e R s m args below meth c T locs cells slots) (hx : p.tables.exec = Jvm.exec) {a b : Addr} {o : Int} (pc' : Nat) (hd : decode c.code pc = .ok (.if_acmp .ne o, 3)) (ho : 0 ≤ (pc : Int) + o) (hp : ((pc : Int) + o).toNat = pc')
    (g1 : ¬ a = b → own_Go p e below Fin T (mkF m pc' Ls rest)) (g2 : a = b → own_Go p e below Fin T (mkF m (pc + 3) Ls rest)) : own_Go p e below Fin T (mkF m pc Ls (.ref b :: .ref a :: rest)) := by
  by_cases q : a = b
  · exact own_by (fun t kk => XT.acmpNo X.here hx rfl hd rfl rfl rfl (decide_eq_false fun z => z (congrArg Value.ref q)) kk) (g2 q)
  · exact own_by (fun t kk => XT.acmpYes X.here hx rfl (pc0 := pc) (pc' := pc') rfl hd rfl rfl rfl (decide_eq_true fun z => q (Value.ref.inj z)) ho hp kk) (g1 q)
theorem own_eqI {args : Array Value} {t : Term} {x : Int32} (h : (Cond.eq t (.int x)).value args s none s [] = some true) : t.eval args s none [] s = some (.int x) := by
  have q : (Term.int x).eval args s none [] s = some (.int x) := rfl
  cases ht : t.eval args s none [] s with
  | none => simp [Cond.value, ht] at h
  | some w => cases w <;> simp [Cond.value, ht, q] at h <;> (try subst h) <;> simp_all
theorem own_enumF {args : Array Value} {C f d O nm dd : String} {a : Addr} {x : Int32} (ev : (Term.static C f d).eval args s none [] s = some (.ref a)) (h : (Cond.eq (Term.field (Term.static C f d) O nm dd) (.int x)).value args s none s [] = some true) : Fld s s.heap a O nm dd (.int x) :=
  Fld.start ((fld_at ev).symm.trans (own_eqI h))
theorem own_Sta_keep {Z : State} {h h' : Heap} {C n d : String} {v : Value} {ws : List Addr} (F : Sta Z h C n d v) (K : Keep h h' ws) (q : ∀ x ∈ ws, ∀ cell : Cell, h[x]? = some cell → cell.vm.isStatics = false) : Sta Z h' C n d v := by
  obtain ⟨cf, i, k, f, st, cell, h1, h2, h3, h4, h5, h6, h7⟩ := F
  exact ⟨cf, i, k, f, st, cell, h1, h2, h3, h4, K.2.1 st cell h5 (fun z => by rw [q st z cell h5] at h6; cases h6), h6, h7⟩
end OwnMore
theorem pn_1 : plainName "com/example/amendment_ledger/amendmentledger/ledger/Expression$Function" = true := by first | (simp [plainName, overriddenIn]; done) | decide +kernel
theorem d1_0 : decode prog_23_method_6_code 0 = .ok (.iload_n 1, 1) := by decide +kernel
theorem d1_1 : decode prog_23_method_6_code 1 = .ok (.aload_n 0, 1) := by decide +kernel
theorem d1_2 : decode prog_23_method_6_code 2 = .ok (.getfield 42, 3) := by decide +kernel
theorem d1_5 : decode prog_23_method_6_code 5 = .ok (.if_icmp .lt 11, 3) := by decide +kernel
theorem d1_8 : decode prog_23_method_6_code 8 = .ok (.iload_n 1, 1) := by decide +kernel
theorem d1_9 : decode prog_23_method_6_code 9 = .ok (.aload_n 0, 1) := by decide +kernel
theorem d1_10 : decode prog_23_method_6_code 10 = .ok (.getfield 46, 3) := by decide +kernel
theorem d1_13 : decode prog_23_method_6_code 13 = .ok (.if_icmp .le 53, 3) := by decide +kernel
theorem d1_66 : decode prog_23_method_6_code 66 = .ok (.return_, 1) := by decide +kernel
theorem pn_0 : plainName "com/example/amendment_ledger/amendmentledger/ledger/FunctionCheckArgumentCountPinLaw" = true := by first | (simp [plainName, overriddenIn]; done) | decide +kernel
theorem pd_0 : parseMethodDescriptor "(I)V" = some ⟨[.int], none⟩ := by decide +kernel
theorem own_l5 {k : Int32} (h0 : 0 ≤ k.toInt) (h1 : k.toInt < 5) : k = 0 ∨ k = 1 ∨ k = 2 ∨ k = 3 ∨ k = 4 := by
  simp only [← Int32.toInt_inj, show (0 : Int32).toInt = 0 from by decide, show (1 : Int32).toInt = 1 from by decide, show (2 : Int32).toInt = 2 from by decide, show (3 : Int32).toInt = 3 from by decide, show (4 : Int32).toInt = 4 from by decide]
  omega
theorem own_k5 (x : Int32) : 0 ≤ ((x &&& 2147483647) % 5).toInt ∧ ((x &&& 2147483647) % 5).toInt < 5 := by
  have e1 : (x &&& 2147483647).toInt = x.toInt % 2 ^ 31 := Jvm.Kit.i32_mask x 2147483647 (k := 31) (by decide) (by decide)
  have k5 : (5 : Int32).toInt = 5 := by decide
  have e2 := Jvm.Kit.i32_rem_nonneg (x := x &&& 2147483647) (y := 5) (by omega)
  rw [e2, k5]; omega
theorem own_many (x : Int32) : ¬ 2 + (x &&& 2147483647) % 2147483646 < 2 := by
  have e1 : (x &&& 2147483647).toInt = x.toInt % 2 ^ 31 := Jvm.Kit.i32_mask x 2147483647 (k := 31) (by decide) (by decide)
  have k5 : (2147483646 : Int32).toInt = 2147483646 := by decide
  have k2 : (2 : Int32).toInt = 2 := by decide
  have e2 := Jvm.Kit.i32_rem_nonneg (x := x &&& 2147483647) (y := 2147483646) (by omega)
  rw [k5] at e2
  have e3 : (2 + (x &&& 2147483647) % 2147483646).toInt = (2 : Int32).toInt + ((x &&& 2147483647) % 2147483646).toInt := Jvm.Kit.i32_add (by omega) (by omega)
  rw [Int32.lt_iff_toInt_lt]; omega
theorem own_top (x : Int32) : ¬ 2147483647 < x := by
  have k2 : (2147483647 : Int32).toInt = 2147483647 := by decide
  have := x.toInt_lt
  rw [Int32.lt_iff_toInt_lt]; omega
def Q1 (h0 : Heap) (n0 : Nat) (v : Option Value) (h : Heap) (L : List Loc) : Prop := v = none ∧ Fr n0 L ∧ h = h0
def Q0 (n0 : Nat) (v : Option Value) (h : Heap) (L : List Loc) : Prop := v = some (.int (1 : Int32)) ∧ Fr n0 L
theorem ef_1 (m : MethodId) (a1 : Addr) (c1 : Int32) : entryFrame m #[(.ref a1), (.int c1)] 3 = mkF m 0 #[.val (.ref a1), .val (.int c1), .unset] [] := by first | (simp [entryFrame, mkF, argsToLocals, Value.category]; done) | rfl
set_option maxRecDepth 65536 in
set_option maxHeartbeats 40000000 in
theorem rm1 (l : Launch) (Z : State) (a0 : Array Value) (hw : ∀ d ∈ tables_1, d.before a0 Z = true) (ws : List Jvm.Cond) (a1 : Addr) (c1 : Int32) (lo : Int32) (hi : Int32) (h0 : Heap) (n0 : Nat) (Z0 : n0 ≤ h0.size) (F_lo : Fld Z h0 a1 "com/example/amendment_ledger/amendmentledger/ledger/Expression$Function" "fewestArguments" "I" (.int lo)) (F_hi : Fld Z h0 a1 "com/example/amendment_ledger/amendmentledger/ledger/Expression$Function" "mostArguments" "I" (.int hi)) (hp1 : ¬ c1 < lo) (hp2 : ¬ hi < c1) :
    MetFree l (⟨"com/example/amendment_ledger/amendmentledger/ledger/Expression$Function", "checkArgumentCount", "(I)V"⟩ : MethodName) (head1 (Jvm.Cond.code (⟨"com/example/amendment_ledger/amendmentledger/ledger/Expression$Function", "checkArgumentCount", "(I)V"⟩ : MethodName) prog_23_method_6_code 3 none :: ws) ({ frames := 0, cells := 0, slots := 0, locals := 0 } : Room)) (fun a U => a = #[(.ref a1), (.int c1)] ∧ Z.Warmed39 U.vm ∧ U.heap = h0) (fun _ _ _ _ _ => True) (fun _ U o U' => ∃ v L, o = .returned v ∧ Q1 h0 n0 v U'.heap L ∧ FrameEnd U o U' L ({ frames := 0, cells := 0, slots := 0, locals := 0 } : Room).cells ({ frames := 0, cells := 0, slots := 0, locals := 0 } : Room).slots) := by
  refine MetFree.of_bodySF (plainFor_of_name pn_1) hisR ?_
  intro p e s m args below meth c s₁ Bd hml0 hP hK
  obtain ⟨rfl, hZ, hh⟩ := hP
  have hx := Bd.exec
  have hby := Bd.bytes
  have hml : c.maxLocals = 3 := hml0
  have hown : s.vm.findClass "com/example/amendment_ledger/amendmentledger/ledger/Expression$Function" = some m.cls := findClass_of_methodNamed Bd.named
  have hnm := (name_of_methodNamed Bd.named Bd.method).1
  have hlk : meth.locks = false := BodyLoose.notSynchronized Bd
  have X0 : Stand p l e ({ frames := 0, cells := 0, slots := 0, locals := 0 } : Room) s m #[(.ref a1), (.int c1)] below meth c s₁ [] 0 0 := Stand.of_body Bd
  have e0 : s₁.heap = h0 := by rw [← hh, Bd.state]; rfl
  have N0 := Fr.nil n0
  refine own_start (Q := Q1 h0 n0) (ef_1 m a1 c1) ?_
  show own_Go p e below _ s₁ (mkF m 0 #[.val (.ref a1), .val (.int c1), .unset] [])
  refine own_by (fun t_ k_ => XS.iloadN X0.here hx rfl (hb hby d1_0) rfl k_) ?_
  show own_Go p e below _ s₁ (mkF m 1 #[.val (.ref a1), .val (.int c1), .unset] [(.int c1)])
  refine own_by (fun t_ k_ => XS.aloadN X0.here hx rfl (hb hby d1_1) rfl rfl k_) ?_
  show own_Go p e below _ s₁ (mkF m 2 #[.val (.ref a1), .val (.int c1), .unset] [(.ref a1), (.int c1)])
  refine own_getF X0 hx hZ hown (hw _ (List.mem_of_getElem? (i := 10) rfl)) Via.refl e0 F_lo (hb hby d1_2) ?_
  intro T1 X1 e1
  show own_Go p e below _ T1 (mkF m 5 #[.val (.ref a1), .val (.int c1), .unset] [(.int lo), (.int c1)])
  refine own_icmp X1 hx 16 (hb hby d1_5) (by decide) (by decide) (fun (hc5 : c1 < lo) => ?_) (fun (hc5 : ¬ c1 < lo) => ?_)
  · exact absurd hc5 hp1
  · show own_Go p e below _ T1 (mkF m 8 #[.val (.ref a1), .val (.int c1), .unset] [])
    refine own_by (fun t_ k_ => XS.iloadN X1.here hx rfl (hb hby d1_8) rfl k_) ?_
    show own_Go p e below _ T1 (mkF m 9 #[.val (.ref a1), .val (.int c1), .unset] [(.int c1)])
    refine own_by (fun t_ k_ => XS.aloadN X1.here hx rfl (hb hby d1_9) rfl rfl k_) ?_
    show own_Go p e below _ T1 (mkF m 10 #[.val (.ref a1), .val (.int c1), .unset] [(.ref a1), (.int c1)])
    refine own_getF X1 hx hZ hown (hw _ (List.mem_of_getElem? (i := 12) rfl)) Via.refl e1 F_hi (hb hby d1_10) ?_
    intro T2 X2 e2
    show own_Go p e below _ T2 (mkF m 13 #[.val (.ref a1), .val (.int c1), .unset] [(.int hi), (.int c1)])
    refine own_icmp X2 hx 66 (hb hby d1_13) (by decide) (by decide) (fun (hc13 : ¬ hi < c1) => ?_) (fun (hc13 : hi < c1) => ?_)
    · show own_Go p e below _ T2 (mkF m 66 #[.val (.ref a1), .val (.int c1), .unset] [])
      refine own_retV X2 hx hlk Bd.returns (hb hby d1_66) e2 (by decide) (by decide) ?_
      exact ⟨rfl, N0, rfl⟩
    · exact absurd hc13 hp2
theorem ef_0 (m : MethodId) (p1 : Int32) (p2 : Int32) : entryFrame m #[(.int p1), (.int p2)] maxLocals = mkF m 0 #[.val (.int p1), .val (.int p2), .unset, .unset, .unset, .unset] [] := by first | (simp [entryFrame, mkF, argsToLocals, Value.category, maxLocals]; done) | rfl
set_option maxRecDepth 65536 in
set_option maxHeartbeats 40000000 in
theorem rm0 (l : Launch) (Z : State) (a0 : Array Value) (hw : ∀ d ∈ tables_1, d.before a0 Z = true) (ws : List Jvm.Cond) (p1 : Int32) (p2 : Int32) (a_MAX : Addr) (a_ROUND_DOWN : Addr) (a_ROUND_UP : Addr) (a_MIN : Addr) (a_ROUND : Addr) (h0 : Heap) (n0 : Nat) (Z0 : n0 ≤ h0.size) (E_MAX : Exa Z h0 a_MAX "com/example/amendment_ledger/amendmentledger/ledger/Expression$Function$1") (S_MAX : Sta Z h0 "com/example/amendment_ledger/amendmentledger/ledger/Expression$Function" "MAX" "Lcom/example/amendment_ledger/amendmentledger/ledger/Expression$Function;" (.ref a_MAX)) (E_ROUND_DOWN : Exa Z h0 a_ROUND_DOWN "com/example/amendment_ledger/amendmentledger/ledger/Expression$Function$5") (S_ROUND_DOWN : Sta Z h0 "com/example/amendment_ledger/amendmentledger/ledger/Expression$Function" "ROUND_DOWN" "Lcom/example/amendment_ledger/amendmentledger/ledger/Expression$Function;" (.ref a_ROUND_DOWN)) (E_ROUND_UP : Exa Z h0 a_ROUND_UP "com/example/amendment_ledger/amendmentledger/ledger/Expression$Function$4") (S_ROUND_UP : Sta Z h0 "com/example/amendment_ledger/amendmentledger/ledger/Expression$Function" "ROUND_UP" "Lcom/example/amendment_ledger/amendmentledger/ledger/Expression$Function;" (.ref a_ROUND_UP)) (E_MIN : Exa Z h0 a_MIN "com/example/amendment_ledger/amendmentledger/ledger/Expression$Function$2") (S_MIN : Sta Z h0 "com/example/amendment_ledger/amendmentledger/ledger/Expression$Function" "MIN" "Lcom/example/amendment_ledger/amendmentledger/ledger/Expression$Function;" (.ref a_MIN)) (E_ROUND : Exa Z h0 a_ROUND "com/example/amendment_ledger/amendmentledger/ledger/Expression$Function$3") (S_ROUND : Sta Z h0 "com/example/amendment_ledger/amendmentledger/ledger/Expression$Function" "ROUND" "Lcom/example/amendment_ledger/amendmentledger/ledger/Expression$Function;" (.ref a_ROUND)) (F_fewestArguments_MAX : Fld Z h0 a_MAX "com/example/amendment_ledger/amendmentledger/ledger/Expression$Function" "fewestArguments" "I" (.int (2 : Int32))) (F_mostArguments_MAX : Fld Z h0 a_MAX "com/example/amendment_ledger/amendmentledger/ledger/Expression$Function" "mostArguments" "I" (.int (2147483647 : Int32))) (F_fewestArguments_ROUND_DOWN : Fld Z h0 a_ROUND_DOWN "com/example/amendment_ledger/amendmentledger/ledger/Expression$Function" "fewestArguments" "I" (.int (2 : Int32))) (F_mostArguments_ROUND_DOWN : Fld Z h0 a_ROUND_DOWN "com/example/amendment_ledger/amendmentledger/ledger/Expression$Function" "mostArguments" "I" (.int (2 : Int32))) (F_fewestArguments_ROUND_UP : Fld Z h0 a_ROUND_UP "com/example/amendment_ledger/amendmentledger/ledger/Expression$Function" "fewestArguments" "I" (.int (2 : Int32))) (F_mostArguments_ROUND_UP : Fld Z h0 a_ROUND_UP "com/example/amendment_ledger/amendmentledger/ledger/Expression$Function" "mostArguments" "I" (.int (2 : Int32))) (F_fewestArguments_MIN : Fld Z h0 a_MIN "com/example/amendment_ledger/amendmentledger/ledger/Expression$Function" "fewestArguments" "I" (.int (2 : Int32))) (F_mostArguments_MIN : Fld Z h0 a_MIN "com/example/amendment_ledger/amendmentledger/ledger/Expression$Function" "mostArguments" "I" (.int (2147483647 : Int32))) (F_fewestArguments_ROUND : Fld Z h0 a_ROUND "com/example/amendment_ledger/amendmentledger/ledger/Expression$Function" "fewestArguments" "I" (.int (2 : Int32))) (F_mostArguments_ROUND : Fld Z h0 a_ROUND "com/example/amendment_ledger/amendmentledger/ledger/Expression$Function" "mostArguments" "I" (.int (2 : Int32))) :
    MetFree l x (head1 (Jvm.Cond.code x code maxLocals ret :: ws) room_1) (fun a U => a = #[(.int p1), (.int p2)] ∧ Z.Warmed39 U.vm ∧ U.heap = h0) (fun _ _ _ _ _ => True) (fun _ U o U' => ∃ v L, o = .returned v ∧ Q0 n0 v U'.heap L ∧ FrameEnd U o U' L room_1.cells room_1.slots) := by
  refine MetFree.of_bodySF (plainFor_of_name pn_0) hisR ?_
  intro p e s m args below meth c s₁ Bd hml0 hP hK
  obtain ⟨rfl, hZ, hh⟩ := hP
  have hx := Bd.exec
  have hby := Bd.bytes
  have hml : c.maxLocals = 6 := hml0
  have hown : s.vm.findClass "com/example/amendment_ledger/amendmentledger/ledger/FunctionCheckArgumentCountPinLaw" = some m.cls := findClass_of_methodNamed Bd.named
  have hnm := (name_of_methodNamed Bd.named Bd.method).1
  have hlk : meth.locks = false := BodyLoose.notSynchronized Bd
  have X0 : Stand p l e room_1 s m #[(.int p1), (.int p2)] below meth c s₁ [] 0 0 := Stand.of_body Bd
  have e0 : s₁.heap = h0 := by rw [← hh, Bd.state]; rfl
  have N0 := Fr.nil n0
  refine own_start (Q := Q0 n0) (ef_0 m p1 p2) ?_
  show own_Go p e below _ s₁ (mkF m 0 #[.val (.int p1), .val (.int p2), .unset, .unset, .unset, .unset] [])
  refine own_by (fun t_ k_ => XS.iloadN X0.here hx rfl (hb hby at_0) rfl k_) ?_
  show own_Go p e below _ s₁ (mkF m 1 #[.val (.int p1), .val (.int p2), .unset, .unset, .unset, .unset] [(.int p1)])
  refine own_by (fun t_ k_ => X0.ldcInt hx hown (mvT hZ (hw _ (List.mem_of_getElem? (i := 0) rfl))) (g := (mkF m 1 #[.val (.int p1), .val (.int p2), .unset, .unset, .unset, .unset] [(.int p1)])) rfl (hb hby at_1) _ k_) ?_
  show own_Go p e below _ s₁ (mkF m 3 #[.val (.int p1), .val (.int p2), .unset, .unset, .unset, .unset] [(.int (2147483647 : Int32)), (.int p1)])
  refine own_by (fun t_ k_ => XS.iand X0.here hx rfl (hb hby at_3) rfl k_) ?_
  show own_Go p e below _ s₁ (mkF m 4 #[.val (.int p1), .val (.int p2), .unset, .unset, .unset, .unset] [(.int (p1 &&& (2147483647 : Int32)))])
  refine own_by (fun t_ k_ => XS.iconst X0.here hx rfl (hb hby at_4) k_) ?_
  show own_Go p e below _ s₁ (mkF m 5 #[.val (.int p1), .val (.int p2), .unset, .unset, .unset, .unset] [(.int (5 : Int32)), (.int (p1 &&& (2147483647 : Int32)))])
  refine own_by (fun t_ k_ => iremM X0 hx rfl (hb hby at_5) rfl (by decide) k_) ?_
  show own_Go p e below _ s₁ (mkF m 6 #[.val (.int p1), .val (.int p2), .unset, .unset, .unset, .unset] [(.int ((p1 &&& (2147483647 : Int32)) % (5 : Int32)))])
  refine own_by (fun t_ k_ => XS.istoreN X0.here hx rfl (hb hby at_6) rfl (l' := #[.val (.int p1), .val (.int p2), .val (.int ((p1 &&& (2147483647 : Int32)) % (5 : Int32))), .unset, .unset, .unset]) rfl k_) ?_
  show own_Go p e below _ s₁ (mkF m 7 #[.val (.int p1), .val (.int p2), .val (.int ((p1 &&& (2147483647 : Int32)) % (5 : Int32))), .unset, .unset, .unset] [])
  generalize h_kq : ((p1 &&& (2147483647 : Int32)) % (5 : Int32)) = kq
  show own_Go p e below _ s₁ (mkF m 7 #[.val (.int p1), .val (.int p2), .val (.int kq), .unset, .unset, .unset] [])
  refine own_by (fun t_ k_ => XS.iconst X0.here hx rfl (hb hby at_7) k_) ?_
  show own_Go p e below _ s₁ (mkF m 8 #[.val (.int p1), .val (.int p2), .val (.int kq), .unset, .unset, .unset] [(.int (2 : Int32))])
  refine own_by (fun t_ k_ => XS.iloadN X0.here hx rfl (hb hby at_8) rfl k_) ?_
  show own_Go p e below _ s₁ (mkF m 9 #[.val (.int p1), .val (.int p2), .val (.int kq), .unset, .unset, .unset] [(.int p2), (.int (2 : Int32))])
  refine own_by (fun t_ k_ => X0.ldcInt hx hown (mvT hZ (hw _ (List.mem_of_getElem? (i := 0) rfl))) (g := (mkF m 9 #[.val (.int p1), .val (.int p2), .val (.int kq), .unset, .unset, .unset] [(.int p2), (.int (2 : Int32))])) rfl (hb hby at_9) _ k_) ?_
  show own_Go p e below _ s₁ (mkF m 11 #[.val (.int p1), .val (.int p2), .val (.int kq), .unset, .unset, .unset] [(.int (2147483647 : Int32)), (.int p2), (.int (2 : Int32))])
  refine own_by (fun t_ k_ => XS.iand X0.here hx rfl (hb hby at_11) rfl k_) ?_
  show own_Go p e below _ s₁ (mkF m 12 #[.val (.int p1), .val (.int p2), .val (.int kq), .unset, .unset, .unset] [(.int (p2 &&& (2147483647 : Int32))), (.int (2 : Int32))])
  refine own_by (fun t_ k_ => X0.ldcInt hx hown (mvT hZ (hw _ (List.mem_of_getElem? (i := 1) rfl))) (g := (mkF m 12 #[.val (.int p1), .val (.int p2), .val (.int kq), .unset, .unset, .unset] [(.int (p2 &&& (2147483647 : Int32))), (.int (2 : Int32))])) rfl (hb hby at_12) _ k_) ?_
  show own_Go p e below _ s₁ (mkF m 14 #[.val (.int p1), .val (.int p2), .val (.int kq), .unset, .unset, .unset] [(.int (2147483646 : Int32)), (.int (p2 &&& (2147483647 : Int32))), (.int (2 : Int32))])
  refine own_by (fun t_ k_ => iremM X0 hx rfl (hb hby at_14) rfl (by decide) k_) ?_
  show own_Go p e below _ s₁ (mkF m 15 #[.val (.int p1), .val (.int p2), .val (.int kq), .unset, .unset, .unset] [(.int ((p2 &&& (2147483647 : Int32)) % (2147483646 : Int32))), (.int (2 : Int32))])
  refine own_by (fun t_ k_ => XS.iadd X0.here hx rfl (hb hby at_15) rfl k_) ?_
  show own_Go p e below _ s₁ (mkF m 16 #[.val (.int p1), .val (.int p2), .val (.int kq), .unset, .unset, .unset] [(.int ((2 : Int32) + ((p2 &&& (2147483647 : Int32)) % (2147483646 : Int32))))])
  refine own_by (fun t_ k_ => XS.istoreN X0.here hx rfl (hb hby at_16) rfl (l' := #[.val (.int p1), .val (.int p2), .val (.int kq), .val (.int ((2 : Int32) + ((p2 &&& (2147483647 : Int32)) % (2147483646 : Int32)))), .unset, .unset]) rfl k_) ?_
  show own_Go p e below _ s₁ (mkF m 17 #[.val (.int p1), .val (.int p2), .val (.int kq), .val (.int ((2 : Int32) + ((p2 &&& (2147483647 : Int32)) % (2147483646 : Int32)))), .unset, .unset] [])
  generalize h_many : ((2 : Int32) + ((p2 &&& (2147483647 : Int32)) % (2147483646 : Int32))) = many
  rcases own_l5 (h_kq ▸ (own_k5 p1).1) (h_kq ▸ (own_k5 p1).2) with rfl | rfl | rfl | rfl | rfl
  · show own_Go p e below _ s₁ (mkF m 17 #[.val (.int p1), .val (.int p2), .val (.int (0 : Int32)), .val (.int many), .unset, .unset] [])
    refine own_by (fun t_ k_ => XS.iloadN X0.here hx rfl (hb hby at_17) rfl k_) ?_
    show own_Go p e below _ s₁ (mkF m 18 #[.val (.int p1), .val (.int p2), .val (.int (0 : Int32)), .val (.int many), .unset, .unset] [(.int (0 : Int32))])
    refine own_if X0 hx 32 (hb hby at_18) (by decide) (by decide) (fun hc => absurd (show (0 : Int32) = (0 : Int32) from by decide) (by first | exact hc | exact not_not_intro hc)) (fun _ => ?_)
    show own_Go p e below _ s₁ (mkF m 21 #[.val (.int p1), .val (.int p2), .val (.int (0 : Int32)), .val (.int many), .unset, .unset] [])
    refine own_getS X0 hx hZ hown (hw _ (List.mem_of_getElem? (i := 2) rfl)) Via.refl e0 S_MAX (hb hby at_21) ?_
    intro T1 X1 e1
    show own_Go p e below _ T1 (mkF m 24 #[.val (.int p1), .val (.int p2), .val (.int (0 : Int32)), .val (.int many), .unset, .unset] [(.ref a_MAX)])
    refine own_by (fun t_ k_ => XS.astore X1.here hx rfl (hb hby at_24) rfl rfl (l' := #[.val (.int p1), .val (.int p2), .val (.int (0 : Int32)), .val (.int many), .val (.ref a_MAX), .unset]) rfl k_) ?_
    show own_Go p e below _ T1 (mkF m 26 #[.val (.int p1), .val (.int p2), .val (.int (0 : Int32)), .val (.int many), .val (.ref a_MAX), .unset] [])
    refine own_by (fun t_ k_ => XS.iloadN X1.here hx rfl (hb hby at_26) rfl k_) ?_
    show own_Go p e below _ T1 (mkF m 27 #[.val (.int p1), .val (.int p2), .val (.int (0 : Int32)), .val (.int many), .val (.ref a_MAX), .unset] [(.int many)])
    refine own_by (fun t_ k_ => XS.istore X1.here hx rfl (hb hby at_27) rfl (l' := #[.val (.int p1), .val (.int p2), .val (.int (0 : Int32)), .val (.int many), .val (.ref a_MAX), .val (.int many)]) rfl k_) ?_
    show own_Go p e below _ T1 (mkF m 29 #[.val (.int p1), .val (.int p2), .val (.int (0 : Int32)), .val (.int many), .val (.ref a_MAX), .val (.int many)] [])
    refine own_by (fun t_ k_ => XS.goto X1.here hx rfl (pc0 := 29) (pc' := 88) rfl (hb hby at_29) (by decide) (by decide) k_) ?_
    show own_Go p e below _ T1 (mkF m 88 #[.val (.int p1), .val (.int p2), .val (.int (0 : Int32)), .val (.int many), .val (.ref a_MAX), .val (.int many)] [])
    refine own_by (fun t_ k_ => XS.aload X1.here hx rfl (hb hby at_88) rfl rfl k_) ?_
    show own_Go p e below _ T1 (mkF m 90 #[.val (.int p1), .val (.int p2), .val (.int (0 : Int32)), .val (.int many), .val (.ref a_MAX), .val (.int many)] [(.ref a_MAX)])
    refine own_by (fun t_ k_ => XS.iload X1.here hx rfl (hb hby at_90) rfl k_) ?_
    show own_Go p e below _ T1 (mkF m 92 #[.val (.int p1), .val (.int p2), .val (.int (0 : Int32)), .val (.int many), .val (.ref a_MAX), .val (.int many)] [(.int many), (.ref a_MAX)])
    refine own_callV (W := 0) X1 hx hZ (y := (⟨"com/example/amendment_ledger/amendmentledger/ledger/Expression$Function", "checkArgumentCount", "(I)V"⟩ : MethodName)) (z := (⟨"com/example/amendment_ledger/amendmentledger/ledger/Expression$Function", "checkArgumentCount", "(I)V"⟩ : MethodName)) hown (hw _ (List.mem_of_getElem? (i := 5) rfl)) (hw _ (List.mem_of_getElem? (i := 6) rfl)) (notFace_of_selects (args := #[]) (mvT hZ (hw _ (List.mem_of_getElem? (i := 8) rfl)))) (hw _ (List.mem_of_getElem? (i := 8) rfl)) (hw _ (List.mem_of_getElem? (i := 7) rfl)) (hw _ (List.mem_of_getElem? (i := 3) rfl)) (hw _ (List.mem_of_getElem? (i := 9) rfl)) (by decide) (by rw [hml]; rfl) (argsL := [(.int many)]) pd_0 rfl (a := a_MAX) e1 E_MAX (rm1 l Z a0 hw [] a_MAX many _ _ h0 n0 Z0 F_fewestArguments_MAX F_mostArguments_MAX (h_many ▸ own_many p2) (own_top _)) (by decide) (by decide) (Nat.le_of_eq rfl) (by decide) (by decide) (rest := []) rfl (hb hby at_92) ?_
    intro v2 T2 L2 X2 hQ2
    obtain ⟨rfl, N2q, e2⟩ := hQ2
    have N2 := Fr.app N0 N2q
    show own_Go p e below _ T2 (mkF m 95 #[.val (.int p1), .val (.int p2), .val (.int (0 : Int32)), .val (.int many), .val (.ref a_MAX), .val (.int many)] [])
    refine own_by (fun t_ k_ => XS.iconst X2.here hx rfl (hb hby at_95) k_) ?_
    show own_Go p e below _ T2 (mkF m 96 #[.val (.int p1), .val (.int p2), .val (.int (0 : Int32)), .val (.int many), .val (.ref a_MAX), .val (.int many)] [(.int (1 : Int32))])
    refine own_retZ X2 hx hlk Bd.returns (by decide) (hb hby at_96) e2 (by decide) (by decide) ?_
    exact ⟨rfl, N2⟩
  · show own_Go p e below _ s₁ (mkF m 17 #[.val (.int p1), .val (.int p2), .val (.int (1 : Int32)), .val (.int many), .unset, .unset] [])
    refine own_by (fun t_ k_ => XS.iloadN X0.here hx rfl (hb hby at_17) rfl k_) ?_
    show own_Go p e below _ s₁ (mkF m 18 #[.val (.int p1), .val (.int p2), .val (.int (1 : Int32)), .val (.int many), .unset, .unset] [(.int (1 : Int32))])
    refine own_if X0 hx 32 (hb hby at_18) (by decide) (by decide) (fun _ => ?_) (fun hc => absurd (show ¬ (1 : Int32) = (0 : Int32) from by decide) (by first | exact hc | exact not_not_intro hc))
    show own_Go p e below _ s₁ (mkF m 32 #[.val (.int p1), .val (.int p2), .val (.int (1 : Int32)), .val (.int many), .unset, .unset] [])
    refine own_by (fun t_ k_ => XS.iloadN X0.here hx rfl (hb hby at_32) rfl k_) ?_
    show own_Go p e below _ s₁ (mkF m 33 #[.val (.int p1), .val (.int p2), .val (.int (1 : Int32)), .val (.int many), .unset, .unset] [(.int (1 : Int32))])
    refine own_by (fun t_ k_ => XS.iconst X0.here hx rfl (hb hby at_33) k_) ?_
    show own_Go p e below _ s₁ (mkF m 34 #[.val (.int p1), .val (.int p2), .val (.int (1 : Int32)), .val (.int many), .unset, .unset] [(.int (1 : Int32)), (.int (1 : Int32))])
    refine own_icmp X0 hx 48 (hb hby at_34) (by decide) (by decide) (fun hc => absurd (show (1 : Int32) = (1 : Int32) from by decide) (by first | exact hc | exact not_not_intro hc)) (fun _ => ?_)
    show own_Go p e below _ s₁ (mkF m 37 #[.val (.int p1), .val (.int p2), .val (.int (1 : Int32)), .val (.int many), .unset, .unset] [])
    refine own_getS X0 hx hZ hown (hw _ (List.mem_of_getElem? (i := 24) rfl)) Via.refl e0 S_MIN (hb hby at_37) ?_
    intro T3 X3 e3
    show own_Go p e below _ T3 (mkF m 40 #[.val (.int p1), .val (.int p2), .val (.int (1 : Int32)), .val (.int many), .unset, .unset] [(.ref a_MIN)])
    refine own_by (fun t_ k_ => XS.astore X3.here hx rfl (hb hby at_40) rfl rfl (l' := #[.val (.int p1), .val (.int p2), .val (.int (1 : Int32)), .val (.int many), .val (.ref a_MIN), .unset]) rfl k_) ?_
    show own_Go p e below _ T3 (mkF m 42 #[.val (.int p1), .val (.int p2), .val (.int (1 : Int32)), .val (.int many), .val (.ref a_MIN), .unset] [])
    refine own_by (fun t_ k_ => XS.iloadN X3.here hx rfl (hb hby at_42) rfl k_) ?_
    show own_Go p e below _ T3 (mkF m 43 #[.val (.int p1), .val (.int p2), .val (.int (1 : Int32)), .val (.int many), .val (.ref a_MIN), .unset] [(.int many)])
    refine own_by (fun t_ k_ => XS.istore X3.here hx rfl (hb hby at_43) rfl (l' := #[.val (.int p1), .val (.int p2), .val (.int (1 : Int32)), .val (.int many), .val (.ref a_MIN), .val (.int many)]) rfl k_) ?_
    show own_Go p e below _ T3 (mkF m 45 #[.val (.int p1), .val (.int p2), .val (.int (1 : Int32)), .val (.int many), .val (.ref a_MIN), .val (.int many)] [])
    refine own_by (fun t_ k_ => XS.goto X3.here hx rfl (pc0 := 45) (pc' := 88) rfl (hb hby at_45) (by decide) (by decide) k_) ?_
    show own_Go p e below _ T3 (mkF m 88 #[.val (.int p1), .val (.int p2), .val (.int (1 : Int32)), .val (.int many), .val (.ref a_MIN), .val (.int many)] [])
    refine own_by (fun t_ k_ => XS.aload X3.here hx rfl (hb hby at_88) rfl rfl k_) ?_
    show own_Go p e below _ T3 (mkF m 90 #[.val (.int p1), .val (.int p2), .val (.int (1 : Int32)), .val (.int many), .val (.ref a_MIN), .val (.int many)] [(.ref a_MIN)])
    refine own_by (fun t_ k_ => XS.iload X3.here hx rfl (hb hby at_90) rfl k_) ?_
    show own_Go p e below _ T3 (mkF m 92 #[.val (.int p1), .val (.int p2), .val (.int (1 : Int32)), .val (.int many), .val (.ref a_MIN), .val (.int many)] [(.int many), (.ref a_MIN)])
    refine own_callV (W := 0) X3 hx hZ (y := (⟨"com/example/amendment_ledger/amendmentledger/ledger/Expression$Function", "checkArgumentCount", "(I)V"⟩ : MethodName)) (z := (⟨"com/example/amendment_ledger/amendmentledger/ledger/Expression$Function", "checkArgumentCount", "(I)V"⟩ : MethodName)) hown (hw _ (List.mem_of_getElem? (i := 5) rfl)) (hw _ (List.mem_of_getElem? (i := 6) rfl)) (notFace_of_selects (args := #[]) (mvT hZ (hw _ (List.mem_of_getElem? (i := 26) rfl)))) (hw _ (List.mem_of_getElem? (i := 26) rfl)) (hw _ (List.mem_of_getElem? (i := 7) rfl)) (hw _ (List.mem_of_getElem? (i := 3) rfl)) (hw _ (List.mem_of_getElem? (i := 9) rfl)) (by decide) (by rw [hml]; rfl) (argsL := [(.int many)]) pd_0 rfl (a := a_MIN) e3 E_MIN (rm1 l Z a0 hw [] a_MIN many _ _ h0 n0 Z0 F_fewestArguments_MIN F_mostArguments_MIN (h_many ▸ own_many p2) (own_top _)) (by decide) (by decide) (Nat.le_of_eq rfl) (by decide) (by decide) (rest := []) rfl (hb hby at_92) ?_
    intro v4 T4 L4 X4 hQ4
    obtain ⟨rfl, N4q, e4⟩ := hQ4
    have N4 := Fr.app N0 N4q
    show own_Go p e below _ T4 (mkF m 95 #[.val (.int p1), .val (.int p2), .val (.int (1 : Int32)), .val (.int many), .val (.ref a_MIN), .val (.int many)] [])
    refine own_by (fun t_ k_ => XS.iconst X4.here hx rfl (hb hby at_95) k_) ?_
    show own_Go p e below _ T4 (mkF m 96 #[.val (.int p1), .val (.int p2), .val (.int (1 : Int32)), .val (.int many), .val (.ref a_MIN), .val (.int many)] [(.int (1 : Int32))])
    refine own_retZ X4 hx hlk Bd.returns (by decide) (hb hby at_96) e4 (by decide) (by decide) ?_
    exact ⟨rfl, N4⟩
  · show own_Go p e below _ s₁ (mkF m 17 #[.val (.int p1), .val (.int p2), .val (.int (2 : Int32)), .val (.int many), .unset, .unset] [])
    refine own_by (fun t_ k_ => XS.iloadN X0.here hx rfl (hb hby at_17) rfl k_) ?_
    show own_Go p e below _ s₁ (mkF m 18 #[.val (.int p1), .val (.int p2), .val (.int (2 : Int32)), .val (.int many), .unset, .unset] [(.int (2 : Int32))])
    refine own_if X0 hx 32 (hb hby at_18) (by decide) (by decide) (fun _ => ?_) (fun hc => absurd (show ¬ (2 : Int32) = (0 : Int32) from by decide) (by first | exact hc | exact not_not_intro hc))
    show own_Go p e below _ s₁ (mkF m 32 #[.val (.int p1), .val (.int p2), .val (.int (2 : Int32)), .val (.int many), .unset, .unset] [])
    refine own_by (fun t_ k_ => XS.iloadN X0.here hx rfl (hb hby at_32) rfl k_) ?_
    show own_Go p e below _ s₁ (mkF m 33 #[.val (.int p1), .val (.int p2), .val (.int (2 : Int32)), .val (.int many), .unset, .unset] [(.int (2 : Int32))])
    refine own_by (fun t_ k_ => XS.iconst X0.here hx rfl (hb hby at_33) k_) ?_
    show own_Go p e below _ s₁ (mkF m 34 #[.val (.int p1), .val (.int p2), .val (.int (2 : Int32)), .val (.int many), .unset, .unset] [(.int (1 : Int32)), (.int (2 : Int32))])
    refine own_icmp X0 hx 48 (hb hby at_34) (by decide) (by decide) (fun _ => ?_) (fun hc => absurd (show ¬ (2 : Int32) = (1 : Int32) from by decide) (by first | exact hc | exact not_not_intro hc))
    show own_Go p e below _ s₁ (mkF m 48 #[.val (.int p1), .val (.int p2), .val (.int (2 : Int32)), .val (.int many), .unset, .unset] [])
    refine own_by (fun t_ k_ => XS.iloadN X0.here hx rfl (hb hby at_48) rfl k_) ?_
    show own_Go p e below _ s₁ (mkF m 49 #[.val (.int p1), .val (.int p2), .val (.int (2 : Int32)), .val (.int many), .unset, .unset] [(.int (2 : Int32))])
    refine own_by (fun t_ k_ => XS.iconst X0.here hx rfl (hb hby at_49) k_) ?_
    show own_Go p e below _ s₁ (mkF m 50 #[.val (.int p1), .val (.int p2), .val (.int (2 : Int32)), .val (.int many), .unset, .unset] [(.int (2 : Int32)), (.int (2 : Int32))])
    refine own_icmp X0 hx 64 (hb hby at_50) (by decide) (by decide) (fun hc => absurd (show (2 : Int32) = (2 : Int32) from by decide) (by first | exact hc | exact not_not_intro hc)) (fun _ => ?_)
    show own_Go p e below _ s₁ (mkF m 53 #[.val (.int p1), .val (.int p2), .val (.int (2 : Int32)), .val (.int many), .unset, .unset] [])
    refine own_getS X0 hx hZ hown (hw _ (List.mem_of_getElem? (i := 29) rfl)) Via.refl e0 S_ROUND (hb hby at_53) ?_
    intro T5 X5 e5
    show own_Go p e below _ T5 (mkF m 56 #[.val (.int p1), .val (.int p2), .val (.int (2 : Int32)), .val (.int many), .unset, .unset] [(.ref a_ROUND)])
    refine own_by (fun t_ k_ => XS.astore X5.here hx rfl (hb hby at_56) rfl rfl (l' := #[.val (.int p1), .val (.int p2), .val (.int (2 : Int32)), .val (.int many), .val (.ref a_ROUND), .unset]) rfl k_) ?_
    show own_Go p e below _ T5 (mkF m 58 #[.val (.int p1), .val (.int p2), .val (.int (2 : Int32)), .val (.int many), .val (.ref a_ROUND), .unset] [])
    refine own_by (fun t_ k_ => XS.iconst X5.here hx rfl (hb hby at_58) k_) ?_
    show own_Go p e below _ T5 (mkF m 59 #[.val (.int p1), .val (.int p2), .val (.int (2 : Int32)), .val (.int many), .val (.ref a_ROUND), .unset] [(.int (2 : Int32))])
    refine own_by (fun t_ k_ => XS.istore X5.here hx rfl (hb hby at_59) rfl (l' := #[.val (.int p1), .val (.int p2), .val (.int (2 : Int32)), .val (.int many), .val (.ref a_ROUND), .val (.int (2 : Int32))]) rfl k_) ?_
    show own_Go p e below _ T5 (mkF m 61 #[.val (.int p1), .val (.int p2), .val (.int (2 : Int32)), .val (.int many), .val (.ref a_ROUND), .val (.int (2 : Int32))] [])
    refine own_by (fun t_ k_ => XS.goto X5.here hx rfl (pc0 := 61) (pc' := 88) rfl (hb hby at_61) (by decide) (by decide) k_) ?_
    show own_Go p e below _ T5 (mkF m 88 #[.val (.int p1), .val (.int p2), .val (.int (2 : Int32)), .val (.int many), .val (.ref a_ROUND), .val (.int (2 : Int32))] [])
    refine own_by (fun t_ k_ => XS.aload X5.here hx rfl (hb hby at_88) rfl rfl k_) ?_
    show own_Go p e below _ T5 (mkF m 90 #[.val (.int p1), .val (.int p2), .val (.int (2 : Int32)), .val (.int many), .val (.ref a_ROUND), .val (.int (2 : Int32))] [(.ref a_ROUND)])
    refine own_by (fun t_ k_ => XS.iload X5.here hx rfl (hb hby at_90) rfl k_) ?_
    show own_Go p e below _ T5 (mkF m 92 #[.val (.int p1), .val (.int p2), .val (.int (2 : Int32)), .val (.int many), .val (.ref a_ROUND), .val (.int (2 : Int32))] [(.int (2 : Int32)), (.ref a_ROUND)])
    refine own_callV (W := 0) X5 hx hZ (y := (⟨"com/example/amendment_ledger/amendmentledger/ledger/Expression$Function", "checkArgumentCount", "(I)V"⟩ : MethodName)) (z := (⟨"com/example/amendment_ledger/amendmentledger/ledger/Expression$Function", "checkArgumentCount", "(I)V"⟩ : MethodName)) hown (hw _ (List.mem_of_getElem? (i := 5) rfl)) (hw _ (List.mem_of_getElem? (i := 6) rfl)) (notFace_of_selects (args := #[]) (mvT hZ (hw _ (List.mem_of_getElem? (i := 31) rfl)))) (hw _ (List.mem_of_getElem? (i := 31) rfl)) (hw _ (List.mem_of_getElem? (i := 7) rfl)) (hw _ (List.mem_of_getElem? (i := 3) rfl)) (hw _ (List.mem_of_getElem? (i := 9) rfl)) (by decide) (by rw [hml]; rfl) (argsL := [(.int (2 : Int32))]) pd_0 rfl (a := a_ROUND) e5 E_ROUND (rm1 l Z a0 hw [] a_ROUND (2 : Int32) _ _ h0 n0 Z0 F_fewestArguments_ROUND F_mostArguments_ROUND (by decide) (by decide)) (by decide) (by decide) (Nat.le_of_eq rfl) (by decide) (by decide) (rest := []) rfl (hb hby at_92) ?_
    intro v6 T6 L6 X6 hQ6
    obtain ⟨rfl, N6q, e6⟩ := hQ6
    have N6 := Fr.app N0 N6q
    show own_Go p e below _ T6 (mkF m 95 #[.val (.int p1), .val (.int p2), .val (.int (2 : Int32)), .val (.int many), .val (.ref a_ROUND), .val (.int (2 : Int32))] [])
    refine own_by (fun t_ k_ => XS.iconst X6.here hx rfl (hb hby at_95) k_) ?_
    show own_Go p e below _ T6 (mkF m 96 #[.val (.int p1), .val (.int p2), .val (.int (2 : Int32)), .val (.int many), .val (.ref a_ROUND), .val (.int (2 : Int32))] [(.int (1 : Int32))])
    refine own_retZ X6 hx hlk Bd.returns (by decide) (hb hby at_96) e6 (by decide) (by decide) ?_
    exact ⟨rfl, N6⟩
  · show own_Go p e below _ s₁ (mkF m 17 #[.val (.int p1), .val (.int p2), .val (.int (3 : Int32)), .val (.int many), .unset, .unset] [])
    refine own_by (fun t_ k_ => XS.iloadN X0.here hx rfl (hb hby at_17) rfl k_) ?_
    show own_Go p e below _ s₁ (mkF m 18 #[.val (.int p1), .val (.int p2), .val (.int (3 : Int32)), .val (.int many), .unset, .unset] [(.int (3 : Int32))])
    refine own_if X0 hx 32 (hb hby at_18) (by decide) (by decide) (fun _ => ?_) (fun hc => absurd (show ¬ (3 : Int32) = (0 : Int32) from by decide) (by first | exact hc | exact not_not_intro hc))
    show own_Go p e below _ s₁ (mkF m 32 #[.val (.int p1), .val (.int p2), .val (.int (3 : Int32)), .val (.int many), .unset, .unset] [])
    refine own_by (fun t_ k_ => XS.iloadN X0.here hx rfl (hb hby at_32) rfl k_) ?_
    show own_Go p e below _ s₁ (mkF m 33 #[.val (.int p1), .val (.int p2), .val (.int (3 : Int32)), .val (.int many), .unset, .unset] [(.int (3 : Int32))])
    refine own_by (fun t_ k_ => XS.iconst X0.here hx rfl (hb hby at_33) k_) ?_
    show own_Go p e below _ s₁ (mkF m 34 #[.val (.int p1), .val (.int p2), .val (.int (3 : Int32)), .val (.int many), .unset, .unset] [(.int (1 : Int32)), (.int (3 : Int32))])
    refine own_icmp X0 hx 48 (hb hby at_34) (by decide) (by decide) (fun _ => ?_) (fun hc => absurd (show ¬ (3 : Int32) = (1 : Int32) from by decide) (by first | exact hc | exact not_not_intro hc))
    show own_Go p e below _ s₁ (mkF m 48 #[.val (.int p1), .val (.int p2), .val (.int (3 : Int32)), .val (.int many), .unset, .unset] [])
    refine own_by (fun t_ k_ => XS.iloadN X0.here hx rfl (hb hby at_48) rfl k_) ?_
    show own_Go p e below _ s₁ (mkF m 49 #[.val (.int p1), .val (.int p2), .val (.int (3 : Int32)), .val (.int many), .unset, .unset] [(.int (3 : Int32))])
    refine own_by (fun t_ k_ => XS.iconst X0.here hx rfl (hb hby at_49) k_) ?_
    show own_Go p e below _ s₁ (mkF m 50 #[.val (.int p1), .val (.int p2), .val (.int (3 : Int32)), .val (.int many), .unset, .unset] [(.int (2 : Int32)), (.int (3 : Int32))])
    refine own_icmp X0 hx 64 (hb hby at_50) (by decide) (by decide) (fun _ => ?_) (fun hc => absurd (show ¬ (3 : Int32) = (2 : Int32) from by decide) (by first | exact hc | exact not_not_intro hc))
    show own_Go p e below _ s₁ (mkF m 64 #[.val (.int p1), .val (.int p2), .val (.int (3 : Int32)), .val (.int many), .unset, .unset] [])
    refine own_by (fun t_ k_ => XS.iloadN X0.here hx rfl (hb hby at_64) rfl k_) ?_
    show own_Go p e below _ s₁ (mkF m 65 #[.val (.int p1), .val (.int p2), .val (.int (3 : Int32)), .val (.int many), .unset, .unset] [(.int (3 : Int32))])
    refine own_by (fun t_ k_ => XS.iconst X0.here hx rfl (hb hby at_65) k_) ?_
    show own_Go p e below _ s₁ (mkF m 66 #[.val (.int p1), .val (.int p2), .val (.int (3 : Int32)), .val (.int many), .unset, .unset] [(.int (3 : Int32)), (.int (3 : Int32))])
    refine own_icmp X0 hx 80 (hb hby at_66) (by decide) (by decide) (fun hc => absurd (show (3 : Int32) = (3 : Int32) from by decide) (by first | exact hc | exact not_not_intro hc)) (fun _ => ?_)
    show own_Go p e below _ s₁ (mkF m 69 #[.val (.int p1), .val (.int p2), .val (.int (3 : Int32)), .val (.int many), .unset, .unset] [])
    refine own_getS X0 hx hZ hown (hw _ (List.mem_of_getElem? (i := 19) rfl)) Via.refl e0 S_ROUND_UP (hb hby at_69) ?_
    intro T7 X7 e7
    show own_Go p e below _ T7 (mkF m 72 #[.val (.int p1), .val (.int p2), .val (.int (3 : Int32)), .val (.int many), .unset, .unset] [(.ref a_ROUND_UP)])
    refine own_by (fun t_ k_ => XS.astore X7.here hx rfl (hb hby at_72) rfl rfl (l' := #[.val (.int p1), .val (.int p2), .val (.int (3 : Int32)), .val (.int many), .val (.ref a_ROUND_UP), .unset]) rfl k_) ?_
    show own_Go p e below _ T7 (mkF m 74 #[.val (.int p1), .val (.int p2), .val (.int (3 : Int32)), .val (.int many), .val (.ref a_ROUND_UP), .unset] [])
    refine own_by (fun t_ k_ => XS.iconst X7.here hx rfl (hb hby at_74) k_) ?_
    show own_Go p e below _ T7 (mkF m 75 #[.val (.int p1), .val (.int p2), .val (.int (3 : Int32)), .val (.int many), .val (.ref a_ROUND_UP), .unset] [(.int (2 : Int32))])
    refine own_by (fun t_ k_ => XS.istore X7.here hx rfl (hb hby at_75) rfl (l' := #[.val (.int p1), .val (.int p2), .val (.int (3 : Int32)), .val (.int many), .val (.ref a_ROUND_UP), .val (.int (2 : Int32))]) rfl k_) ?_
    show own_Go p e below _ T7 (mkF m 77 #[.val (.int p1), .val (.int p2), .val (.int (3 : Int32)), .val (.int many), .val (.ref a_ROUND_UP), .val (.int (2 : Int32))] [])
    refine own_by (fun t_ k_ => XS.goto X7.here hx rfl (pc0 := 77) (pc' := 88) rfl (hb hby at_77) (by decide) (by decide) k_) ?_
    show own_Go p e below _ T7 (mkF m 88 #[.val (.int p1), .val (.int p2), .val (.int (3 : Int32)), .val (.int many), .val (.ref a_ROUND_UP), .val (.int (2 : Int32))] [])
    refine own_by (fun t_ k_ => XS.aload X7.here hx rfl (hb hby at_88) rfl rfl k_) ?_
    show own_Go p e below _ T7 (mkF m 90 #[.val (.int p1), .val (.int p2), .val (.int (3 : Int32)), .val (.int many), .val (.ref a_ROUND_UP), .val (.int (2 : Int32))] [(.ref a_ROUND_UP)])
    refine own_by (fun t_ k_ => XS.iload X7.here hx rfl (hb hby at_90) rfl k_) ?_
    show own_Go p e below _ T7 (mkF m 92 #[.val (.int p1), .val (.int p2), .val (.int (3 : Int32)), .val (.int many), .val (.ref a_ROUND_UP), .val (.int (2 : Int32))] [(.int (2 : Int32)), (.ref a_ROUND_UP)])
    refine own_callV (W := 0) X7 hx hZ (y := (⟨"com/example/amendment_ledger/amendmentledger/ledger/Expression$Function", "checkArgumentCount", "(I)V"⟩ : MethodName)) (z := (⟨"com/example/amendment_ledger/amendmentledger/ledger/Expression$Function", "checkArgumentCount", "(I)V"⟩ : MethodName)) hown (hw _ (List.mem_of_getElem? (i := 5) rfl)) (hw _ (List.mem_of_getElem? (i := 6) rfl)) (notFace_of_selects (args := #[]) (mvT hZ (hw _ (List.mem_of_getElem? (i := 21) rfl)))) (hw _ (List.mem_of_getElem? (i := 21) rfl)) (hw _ (List.mem_of_getElem? (i := 7) rfl)) (hw _ (List.mem_of_getElem? (i := 3) rfl)) (hw _ (List.mem_of_getElem? (i := 9) rfl)) (by decide) (by rw [hml]; rfl) (argsL := [(.int (2 : Int32))]) pd_0 rfl (a := a_ROUND_UP) e7 E_ROUND_UP (rm1 l Z a0 hw [] a_ROUND_UP (2 : Int32) _ _ h0 n0 Z0 F_fewestArguments_ROUND_UP F_mostArguments_ROUND_UP (by decide) (by decide)) (by decide) (by decide) (Nat.le_of_eq rfl) (by decide) (by decide) (rest := []) rfl (hb hby at_92) ?_
    intro v8 T8 L8 X8 hQ8
    obtain ⟨rfl, N8q, e8⟩ := hQ8
    have N8 := Fr.app N0 N8q
    show own_Go p e below _ T8 (mkF m 95 #[.val (.int p1), .val (.int p2), .val (.int (3 : Int32)), .val (.int many), .val (.ref a_ROUND_UP), .val (.int (2 : Int32))] [])
    refine own_by (fun t_ k_ => XS.iconst X8.here hx rfl (hb hby at_95) k_) ?_
    show own_Go p e below _ T8 (mkF m 96 #[.val (.int p1), .val (.int p2), .val (.int (3 : Int32)), .val (.int many), .val (.ref a_ROUND_UP), .val (.int (2 : Int32))] [(.int (1 : Int32))])
    refine own_retZ X8 hx hlk Bd.returns (by decide) (hb hby at_96) e8 (by decide) (by decide) ?_
    exact ⟨rfl, N8⟩
  · show own_Go p e below _ s₁ (mkF m 17 #[.val (.int p1), .val (.int p2), .val (.int (4 : Int32)), .val (.int many), .unset, .unset] [])
    refine own_by (fun t_ k_ => XS.iloadN X0.here hx rfl (hb hby at_17) rfl k_) ?_
    show own_Go p e below _ s₁ (mkF m 18 #[.val (.int p1), .val (.int p2), .val (.int (4 : Int32)), .val (.int many), .unset, .unset] [(.int (4 : Int32))])
    refine own_if X0 hx 32 (hb hby at_18) (by decide) (by decide) (fun _ => ?_) (fun hc => absurd (show ¬ (4 : Int32) = (0 : Int32) from by decide) (by first | exact hc | exact not_not_intro hc))
    show own_Go p e below _ s₁ (mkF m 32 #[.val (.int p1), .val (.int p2), .val (.int (4 : Int32)), .val (.int many), .unset, .unset] [])
    refine own_by (fun t_ k_ => XS.iloadN X0.here hx rfl (hb hby at_32) rfl k_) ?_
    show own_Go p e below _ s₁ (mkF m 33 #[.val (.int p1), .val (.int p2), .val (.int (4 : Int32)), .val (.int many), .unset, .unset] [(.int (4 : Int32))])
    refine own_by (fun t_ k_ => XS.iconst X0.here hx rfl (hb hby at_33) k_) ?_
    show own_Go p e below _ s₁ (mkF m 34 #[.val (.int p1), .val (.int p2), .val (.int (4 : Int32)), .val (.int many), .unset, .unset] [(.int (1 : Int32)), (.int (4 : Int32))])
    refine own_icmp X0 hx 48 (hb hby at_34) (by decide) (by decide) (fun _ => ?_) (fun hc => absurd (show ¬ (4 : Int32) = (1 : Int32) from by decide) (by first | exact hc | exact not_not_intro hc))
    show own_Go p e below _ s₁ (mkF m 48 #[.val (.int p1), .val (.int p2), .val (.int (4 : Int32)), .val (.int many), .unset, .unset] [])
    refine own_by (fun t_ k_ => XS.iloadN X0.here hx rfl (hb hby at_48) rfl k_) ?_
    show own_Go p e below _ s₁ (mkF m 49 #[.val (.int p1), .val (.int p2), .val (.int (4 : Int32)), .val (.int many), .unset, .unset] [(.int (4 : Int32))])
    refine own_by (fun t_ k_ => XS.iconst X0.here hx rfl (hb hby at_49) k_) ?_
    show own_Go p e below _ s₁ (mkF m 50 #[.val (.int p1), .val (.int p2), .val (.int (4 : Int32)), .val (.int many), .unset, .unset] [(.int (2 : Int32)), (.int (4 : Int32))])
    refine own_icmp X0 hx 64 (hb hby at_50) (by decide) (by decide) (fun _ => ?_) (fun hc => absurd (show ¬ (4 : Int32) = (2 : Int32) from by decide) (by first | exact hc | exact not_not_intro hc))
    show own_Go p e below _ s₁ (mkF m 64 #[.val (.int p1), .val (.int p2), .val (.int (4 : Int32)), .val (.int many), .unset, .unset] [])
    refine own_by (fun t_ k_ => XS.iloadN X0.here hx rfl (hb hby at_64) rfl k_) ?_
    show own_Go p e below _ s₁ (mkF m 65 #[.val (.int p1), .val (.int p2), .val (.int (4 : Int32)), .val (.int many), .unset, .unset] [(.int (4 : Int32))])
    refine own_by (fun t_ k_ => XS.iconst X0.here hx rfl (hb hby at_65) k_) ?_
    show own_Go p e below _ s₁ (mkF m 66 #[.val (.int p1), .val (.int p2), .val (.int (4 : Int32)), .val (.int many), .unset, .unset] [(.int (3 : Int32)), (.int (4 : Int32))])
    refine own_icmp X0 hx 80 (hb hby at_66) (by decide) (by decide) (fun _ => ?_) (fun hc => absurd (show ¬ (4 : Int32) = (3 : Int32) from by decide) (by first | exact hc | exact not_not_intro hc))
    show own_Go p e below _ s₁ (mkF m 80 #[.val (.int p1), .val (.int p2), .val (.int (4 : Int32)), .val (.int many), .unset, .unset] [])
    refine own_getS X0 hx hZ hown (hw _ (List.mem_of_getElem? (i := 14) rfl)) Via.refl e0 S_ROUND_DOWN (hb hby at_80) ?_
    intro T9 X9 e9
    show own_Go p e below _ T9 (mkF m 83 #[.val (.int p1), .val (.int p2), .val (.int (4 : Int32)), .val (.int many), .unset, .unset] [(.ref a_ROUND_DOWN)])
    refine own_by (fun t_ k_ => XS.astore X9.here hx rfl (hb hby at_83) rfl rfl (l' := #[.val (.int p1), .val (.int p2), .val (.int (4 : Int32)), .val (.int many), .val (.ref a_ROUND_DOWN), .unset]) rfl k_) ?_
    show own_Go p e below _ T9 (mkF m 85 #[.val (.int p1), .val (.int p2), .val (.int (4 : Int32)), .val (.int many), .val (.ref a_ROUND_DOWN), .unset] [])
    refine own_by (fun t_ k_ => XS.iconst X9.here hx rfl (hb hby at_85) k_) ?_
    show own_Go p e below _ T9 (mkF m 86 #[.val (.int p1), .val (.int p2), .val (.int (4 : Int32)), .val (.int many), .val (.ref a_ROUND_DOWN), .unset] [(.int (2 : Int32))])
    refine own_by (fun t_ k_ => XS.istore X9.here hx rfl (hb hby at_86) rfl (l' := #[.val (.int p1), .val (.int p2), .val (.int (4 : Int32)), .val (.int many), .val (.ref a_ROUND_DOWN), .val (.int (2 : Int32))]) rfl k_) ?_
    show own_Go p e below _ T9 (mkF m 88 #[.val (.int p1), .val (.int p2), .val (.int (4 : Int32)), .val (.int many), .val (.ref a_ROUND_DOWN), .val (.int (2 : Int32))] [])
    refine own_by (fun t_ k_ => XS.aload X9.here hx rfl (hb hby at_88) rfl rfl k_) ?_
    show own_Go p e below _ T9 (mkF m 90 #[.val (.int p1), .val (.int p2), .val (.int (4 : Int32)), .val (.int many), .val (.ref a_ROUND_DOWN), .val (.int (2 : Int32))] [(.ref a_ROUND_DOWN)])
    refine own_by (fun t_ k_ => XS.iload X9.here hx rfl (hb hby at_90) rfl k_) ?_
    show own_Go p e below _ T9 (mkF m 92 #[.val (.int p1), .val (.int p2), .val (.int (4 : Int32)), .val (.int many), .val (.ref a_ROUND_DOWN), .val (.int (2 : Int32))] [(.int (2 : Int32)), (.ref a_ROUND_DOWN)])
    refine own_callV (W := 0) X9 hx hZ (y := (⟨"com/example/amendment_ledger/amendmentledger/ledger/Expression$Function", "checkArgumentCount", "(I)V"⟩ : MethodName)) (z := (⟨"com/example/amendment_ledger/amendmentledger/ledger/Expression$Function", "checkArgumentCount", "(I)V"⟩ : MethodName)) hown (hw _ (List.mem_of_getElem? (i := 5) rfl)) (hw _ (List.mem_of_getElem? (i := 6) rfl)) (notFace_of_selects (args := #[]) (mvT hZ (hw _ (List.mem_of_getElem? (i := 16) rfl)))) (hw _ (List.mem_of_getElem? (i := 16) rfl)) (hw _ (List.mem_of_getElem? (i := 7) rfl)) (hw _ (List.mem_of_getElem? (i := 3) rfl)) (hw _ (List.mem_of_getElem? (i := 9) rfl)) (by decide) (by rw [hml]; rfl) (argsL := [(.int (2 : Int32))]) pd_0 rfl (a := a_ROUND_DOWN) e9 E_ROUND_DOWN (rm1 l Z a0 hw [] a_ROUND_DOWN (2 : Int32) _ _ h0 n0 Z0 F_fewestArguments_ROUND_DOWN F_mostArguments_ROUND_DOWN (by decide) (by decide)) (by decide) (by decide) (Nat.le_of_eq rfl) (by decide) (by decide) (rest := []) rfl (hb hby at_92) ?_
    intro v10 T10 L10 X10 hQ10
    obtain ⟨rfl, N10q, e10⟩ := hQ10
    have N10 := Fr.app N0 N10q
    show own_Go p e below _ T10 (mkF m 95 #[.val (.int p1), .val (.int p2), .val (.int (4 : Int32)), .val (.int many), .val (.ref a_ROUND_DOWN), .val (.int (2 : Int32))] [])
    refine own_by (fun t_ k_ => XS.iconst X10.here hx rfl (hb hby at_95) k_) ?_
    show own_Go p e below _ T10 (mkF m 96 #[.val (.int p1), .val (.int p2), .val (.int (4 : Int32)), .val (.int many), .val (.ref a_ROUND_DOWN), .val (.int (2 : Int32))] [(.int (1 : Int32))])
    refine own_retZ X10 hx hlk Bd.returns (by decide) (hb hby at_96) e10 (by decide) (by decide) ?_
    exact ⟨rfl, N10⟩
set_option maxRecDepth 65536 in
set_option maxHeartbeats 40000000 in
theorem comes_1 {Post : Tables → Env → Array Value → State → Outcome → State → Prop} (hpost : ∀ tb e args s v u, (limb_1_1.after args s (.returned v) u = true ∧ limb_1_2.after args s (.returned v) u = true ∧ True) → FrameEnd s (.returned v) u (Jvm.fieldLocs frame_1_writes args s ++ Jvm.arrayLocs frame_1_arrays args s ++ Jvm.staticLocs frame_1_statics s) 0 0 → Post tb e args s (.returned v) u) :
    ArmFor flags0 classFile x code maxLocals ret World_1 tables_1 room_1 Calls_1 rest_1 Pre_1 Post := by
  intro l hfl _ _ p e ha hc hk s m args below hf hA hF happ hP
  obtain ⟨hcalls, hrest, hpre⟩ := hP
  obtain ⟨-, -, -, hnamed, -, -, -, hat⟩ := (Spec.applies_iff hf).mp happ
  obtain ⟨hg, hn⟩ := and_e (Cond.before_iff.mp (show (Jvm.Cond.and given_1 narrow_1).before args s = true from hpre))
  obtain ⟨gc, gr0⟩ := and_e hg
  obtain ⟨ga0, gr1⟩ := and_e gr0
  obtain ⟨w0, w1, rfl⟩ : ∃ w0 w1 : Value, args = #[w0, w1] := by
    have hs : args.size = 2 := by simpa [Cond.value, given_1] using gc
    obtain ⟨L⟩ := args
    match L, hs with
    | [w0, w1], _ => exact ⟨w0, w1, rfl⟩
  have hw := fun d (hd : d ∈ tables_1) => atoms_spec (ws := Jvm.Cond.code x code maxLocals ret :: tables_1) hat d (List.mem_cons_of_mem _ hd)
  have hfit : Fit s := fun {y c} hc i hi => by
    obtain ⟨ha, rfl⟩ := Array.getElem?_eq_some_iff.mp hc
    have q := List.all_eq_true.mp ((Array.all_eq_true_iff_forall_mem.mp hF) _ (Array.getElem_mem ha)) i (List.mem_range.mpr hi)
    simpa [Array.getElem?_eq_getElem hi] using q
  obtain ⟨i0, ei0⟩ := is_v ga0
  obtain rfl : w0 = (.int i0) := Option.some.inj ei0
  obtain ⟨i1, ei1⟩ := is_v gr1
  obtain rfl : w1 = (.int i1) := Option.some.inj ei1
  obtain ⟨hN0, hR1⟩ := and_e hn
  obtain ⟨hN1, hR2⟩ := and_e hR1
  obtain ⟨hN2, hR3⟩ := and_e hR2
  obtain ⟨hN3, hR4⟩ := and_e hR3
  obtain ⟨hN4, hR5⟩ := and_e hR4
  obtain ⟨hN5, hR6⟩ := and_e hR5
  obtain ⟨hN6, hR7⟩ := and_e hR6
  obtain ⟨hN7, hR8⟩ := and_e hR7
  obtain ⟨hN8, hR9⟩ := and_e hR8
  obtain ⟨hN9, hR10⟩ := and_e hR9
  obtain ⟨hN10, hR11⟩ := and_e hR10
  obtain ⟨hN11, hR12⟩ := and_e hR11
  obtain ⟨hN12, hR13⟩ := and_e hR12
  obtain ⟨hN13, hR14⟩ := and_e hR13
  have hN14 := hR14
  obtain ⟨a_MAX, ev_MAX⟩ := exa_v hN0
  have E_MAX : Exa s s.heap a_MAX "com/example/amendment_ledger/amendmentledger/ledger/Expression$Function$1" := Exa.start ev_MAX hN0
  have S_MAX : Sta s s.heap "com/example/amendment_ledger/amendmentledger/ledger/Expression$Function" "MAX" "Lcom/example/amendment_ledger/amendmentledger/ledger/Expression$Function;" (.ref a_MAX) := Sta.start ev_MAX (Or.inr ⟨(hw _ (List.mem_of_getElem? (i := 3) rfl)), (hw _ (List.mem_of_getElem? (i := 4) rfl))⟩)
  obtain ⟨a_ROUND_DOWN, ev_ROUND_DOWN⟩ := exa_v hN3
  have E_ROUND_DOWN : Exa s s.heap a_ROUND_DOWN "com/example/amendment_ledger/amendmentledger/ledger/Expression$Function$5" := Exa.start ev_ROUND_DOWN hN3
  have S_ROUND_DOWN : Sta s s.heap "com/example/amendment_ledger/amendmentledger/ledger/Expression$Function" "ROUND_DOWN" "Lcom/example/amendment_ledger/amendmentledger/ledger/Expression$Function;" (.ref a_ROUND_DOWN) := Sta.start ev_ROUND_DOWN (Or.inr ⟨(hw _ (List.mem_of_getElem? (i := 3) rfl)), (hw _ (List.mem_of_getElem? (i := 15) rfl))⟩)
  obtain ⟨a_ROUND_UP, ev_ROUND_UP⟩ := exa_v hN6
  have E_ROUND_UP : Exa s s.heap a_ROUND_UP "com/example/amendment_ledger/amendmentledger/ledger/Expression$Function$4" := Exa.start ev_ROUND_UP hN6
  have S_ROUND_UP : Sta s s.heap "com/example/amendment_ledger/amendmentledger/ledger/Expression$Function" "ROUND_UP" "Lcom/example/amendment_ledger/amendmentledger/ledger/Expression$Function;" (.ref a_ROUND_UP) := Sta.start ev_ROUND_UP (Or.inr ⟨(hw _ (List.mem_of_getElem? (i := 3) rfl)), (hw _ (List.mem_of_getElem? (i := 20) rfl))⟩)
  obtain ⟨a_MIN, ev_MIN⟩ := exa_v hN9
  have E_MIN : Exa s s.heap a_MIN "com/example/amendment_ledger/amendmentledger/ledger/Expression$Function$2" := Exa.start ev_MIN hN9
  have S_MIN : Sta s s.heap "com/example/amendment_ledger/amendmentledger/ledger/Expression$Function" "MIN" "Lcom/example/amendment_ledger/amendmentledger/ledger/Expression$Function;" (.ref a_MIN) := Sta.start ev_MIN (Or.inr ⟨(hw _ (List.mem_of_getElem? (i := 3) rfl)), (hw _ (List.mem_of_getElem? (i := 25) rfl))⟩)
  obtain ⟨a_ROUND, ev_ROUND⟩ := exa_v hN12
  have E_ROUND : Exa s s.heap a_ROUND "com/example/amendment_ledger/amendmentledger/ledger/Expression$Function$3" := Exa.start ev_ROUND hN12
  have S_ROUND : Sta s s.heap "com/example/amendment_ledger/amendmentledger/ledger/Expression$Function" "ROUND" "Lcom/example/amendment_ledger/amendmentledger/ledger/Expression$Function;" (.ref a_ROUND) := Sta.start ev_ROUND (Or.inr ⟨(hw _ (List.mem_of_getElem? (i := 3) rfl)), (hw _ (List.mem_of_getElem? (i := 30) rfl))⟩)
  have F_fewestArguments_MAX : Fld s s.heap a_MAX "com/example/amendment_ledger/amendmentledger/ledger/Expression$Function" "fewestArguments" "I" (.int (2 : Int32)) := own_enumF ev_MAX hN1
  have F_mostArguments_MAX : Fld s s.heap a_MAX "com/example/amendment_ledger/amendmentledger/ledger/Expression$Function" "mostArguments" "I" (.int (2147483647 : Int32)) := own_enumF ev_MAX hN2
  have F_fewestArguments_ROUND_DOWN : Fld s s.heap a_ROUND_DOWN "com/example/amendment_ledger/amendmentledger/ledger/Expression$Function" "fewestArguments" "I" (.int (2 : Int32)) := own_enumF ev_ROUND_DOWN hN4
  have F_mostArguments_ROUND_DOWN : Fld s s.heap a_ROUND_DOWN "com/example/amendment_ledger/amendmentledger/ledger/Expression$Function" "mostArguments" "I" (.int (2 : Int32)) := own_enumF ev_ROUND_DOWN hN5
  have F_fewestArguments_ROUND_UP : Fld s s.heap a_ROUND_UP "com/example/amendment_ledger/amendmentledger/ledger/Expression$Function" "fewestArguments" "I" (.int (2 : Int32)) := own_enumF ev_ROUND_UP hN7
  have F_mostArguments_ROUND_UP : Fld s s.heap a_ROUND_UP "com/example/amendment_ledger/amendmentledger/ledger/Expression$Function" "mostArguments" "I" (.int (2 : Int32)) := own_enumF ev_ROUND_UP hN8
  have F_fewestArguments_MIN : Fld s s.heap a_MIN "com/example/amendment_ledger/amendmentledger/ledger/Expression$Function" "fewestArguments" "I" (.int (2 : Int32)) := own_enumF ev_MIN hN10
  have F_mostArguments_MIN : Fld s s.heap a_MIN "com/example/amendment_ledger/amendmentledger/ledger/Expression$Function" "mostArguments" "I" (.int (2147483647 : Int32)) := own_enumF ev_MIN hN11
  have F_fewestArguments_ROUND : Fld s s.heap a_ROUND "com/example/amendment_ledger/amendmentledger/ledger/Expression$Function" "fewestArguments" "I" (.int (2 : Int32)) := own_enumF ev_ROUND hN13
  have F_mostArguments_ROUND : Fld s s.heap a_ROUND "com/example/amendment_ledger/amendmentledger/ledger/Expression$Function" "mostArguments" "I" (.int (2 : Int32)) := own_enumF ev_ROUND hN14
  obtain ⟨n, o, h1, h2, h3, _, L, rfl, ⟨rfl, N⟩, hq⟩ := rm0 l s _ hw tables_1 i0 i1 a_MAX a_ROUND_DOWN a_ROUND_UP a_MIN a_ROUND s.heap s.heap.size (Nat.le_refl _) E_MAX S_MAX E_ROUND_DOWN S_ROUND_DOWN E_ROUND_UP S_ROUND_UP E_MIN S_MIN E_ROUND S_ROUND F_fewestArguments_MAX F_mostArguments_MAX F_fewestArguments_ROUND_DOWN F_mostArguments_ROUND_DOWN F_fewestArguments_ROUND_UP F_mostArguments_ROUND_UP F_fewestArguments_MIN F_mostArguments_MIN F_fewestArguments_ROUND F_mostArguments_ROUND p e ha hc hk s m _ below hf ((Spec.applies_iff_loose hf).mp happ).1 ⟨rfl, State.Warmed39.refl s, rfl⟩ trivial
  refine ⟨n, _, h1, h2, h3, hpost _ _ _ _ _ _ ⟨Cond.after_iff.mpr rfl, Cond.after_iff.mpr (eq_i res_at (Term.int_eval (1)) rfl), trivial⟩ ⟨hq.1, hq.2.1, (hq.2.2.sift fun y hy => Or.inr (N y hy)).mono (by decide) (by decide)⟩⟩
theorem main_1_1 : Claimed_1_1 := comes_1 fun _ _ _ _ _ _ h hF => ⟨h.1, hF⟩
theorem main_1_2 : Claimed_1_2 := comes_1 fun _ _ _ _ _ _ h hF => ⟨h.2.1, hF⟩
end Jvm.Pilot.@@N@@
namespace Jvm.Pilot.@@N@@
open Jvm Jvm.ClassFile Sem Op Lib Jvm.Free Jvm.Stand Jvm.Pilot.@@N@@.Jvm.D
/-! MADE BY PROGRAM (witnessworld.py) out of the Statement's table words and the real class files: 17 classes; the members and pool entries that the words name. The judged class is class 1, her method 1. -/
namespace start1
open Jvm.ClassFile
def u (s : String) : CpInfo := .utf8 (stringToUtf16 s)
/-- a pool by its gaps: so many unusable entries, then the entry; so many at the end -/
def gap : Nat → List CpInfo → List CpInfo
  | 0, r => r
  | n + 1, r => .unusable :: gap n r
def poolList (es : List (Nat × CpInfo)) (last : Nat) : List CpInfo := es.foldr (fun e r => gap e.1 (e.2 :: r)) (gap last [])
def pool (es : List (Nat × CpInfo)) (last : Nat) : Array CpInfo := ⟨poolList es last⟩
def fileOf (pool : Array CpInfo) (this : Nat) (attrs : Array Attribute := #[]) (ms : Array MethodInfo := #[]) (fl : Nat := 33) (sup : Nat := 0) (ifs : Array Nat := #[]) (fds : Array FieldInfo := #[]) : ClassFile where
  minorVersion := 0
  majorVersion := 65
  constantPool := pool
  accessFlags := fl
  thisClass := this
  superClass := sup
  interfaces := ifs
  fields := fds
  methods := ms
  attributes := attrs
def plain (name : String) (sup : Option ClassId) : Class where
  name := name
  kind := .ordinary
  loader := none
  accessFlags := 33
  super := sup
  interfaces := #[]
  cf := none
  fields := #[]
  methods := #[]
  instanceTypes := #[]
  staticTypes := #[]
  resolved := #[]
  callSites := []
  init := .initialized
  statics := none
  mirror := none

def pool0 : Array CpInfo := pool [(5, u "<init>"), (0, u "()V"), (1, .class_ 10), (1, u "java/lang/Object")] 113

def k0m0 : Method := { name := "<init>", desc := "()V", sig := { parameters := [], returnType := none }, accessFlags := 1, code := none }
/-- java/lang/Object -/
def k0 : Class := { plain "java/lang/Object" none with
  accessFlags := 33
  interfaces := #[]
  cf := some (fileOf pool0 8 #[] #[{ accessFlags := 1, nameIndex := 5, descriptorIndex := 6, attributes := #[] }] 33 0 #[] #[])
  fields := #[]
  methods := #[k0m0]
  instanceTypes := #[]
  staticTypes := #[]
  resolved := Array.replicate 124 none
  statics := none }

def pool1 : Array CpInfo := pool [(2, .class_ 4), (1, u "java/lang/Object"), (0, u "<init>"), (0, u "()V"), (0, .integer 2147483647), (2, .integer 2147483646), (0, .fieldref 12 13), (0, .class_ 14), (0, .nameAndType 15 16), (0, u "com/example/amendment_ledger/amendmentledger/ledger/Expression$Function"), (0, u "MAX"), (0, u "Lcom/example/amendment_ledger/amendmentledger/ledger/Expression$Function;"), (0, .fieldref 12 18), (0, .nameAndType 19 16), (0, u "MIN"), (0, .fieldref 12 21), (0, .nameAndType 22 16), (0, u "ROUND"), (0, .fieldref 12 24), (0, .nameAndType 25 16), (0, u "ROUND_UP"), (0, .fieldref 12 27), (0, .nameAndType 28 16), (0, u "ROUND_DOWN"), (0, .methodref 12 30), (0, .nameAndType 31 32), (0, u "checkArgumentCount"), (0, u "(I)V"), (0, .class_ 34), (0, u "com/example/amendment_ledger/amendmentledger/ledger/FunctionCheckArgumentCountPinLaw"), (2, u "law"), (0, u "(II)Z")] 7

def k1m0 : Method := { name := "<init>", desc := "()V", sig := { parameters := [], returnType := none }, accessFlags := 2, code := none }
def k1c1 : Code := { maxStack := 3, maxLocals := 6, code := code, exceptionTable := #[], attributes := #[] }
def k1m1 : Method := { name := "law", desc := "(II)Z", sig := { parameters := [.int, .int], returnType := some .boolean }, accessFlags := 9, code := some k1c1 }
/-- com/example/amendment_ledger/amendmentledger/ledger/FunctionCheckArgumentCountPinLaw -/
def k1 : Class := { plain "com/example/amendment_ledger/amendmentledger/ledger/FunctionCheckArgumentCountPinLaw" (some 0) with
  accessFlags := 49
  interfaces := #[]
  cf := some (fileOf pool1 33 #[] #[{ accessFlags := 2, nameIndex := 5, descriptorIndex := 6, attributes := #[] }, { accessFlags := 9, nameIndex := 37, descriptorIndex := 38, attributes := #[] }] 49 2 #[] #[])
  fields := #[]
  methods := #[k1m0, k1m1]
  instanceTypes := #[]
  staticTypes := #[]
  resolved := Array.replicate 46 none
  statics := none }

def pool2 : Array CpInfo := pool [(1, .class_ 2), (0, u "java/lang/constant/Constable"), (0, .class_ 4), (0, u "java/lang/Object")] 6

/-- java/lang/constant/Constable -/
def k2 : Class := { plain "java/lang/constant/Constable" (some 0) with
  accessFlags := 1537
  interfaces := #[]
  cf := some (fileOf pool2 1 #[] #[] 1537 3 #[] #[])
  fields := #[]
  methods := #[]
  instanceTypes := #[]
  staticTypes := #[]
  resolved := Array.replicate 11 none
  statics := none }

def pool3 : Array CpInfo := pool [(1, .class_ 2), (0, u "java/lang/Comparable"), (0, .class_ 4), (0, u "java/lang/Object")] 7

/-- java/lang/Comparable -/
def k3 : Class := { plain "java/lang/Comparable" (some 0) with
  accessFlags := 1537
  interfaces := #[]
  cf := some (fileOf pool3 1 #[] #[] 1537 3 #[] #[])
  fields := #[]
  methods := #[]
  instanceTypes := #[]
  staticTypes := #[]
  resolved := Array.replicate 12 none
  statics := none }

def pool4 : Array CpInfo := pool [(1, .class_ 2), (0, u "java/io/Serializable"), (0, .class_ 4), (0, u "java/lang/Object")] 2

/-- java/io/Serializable -/
def k4 : Class := { plain "java/io/Serializable" (some 0) with
  accessFlags := 1537
  interfaces := #[]
  cf := some (fileOf pool4 1 #[] #[] 1537 3 #[] #[])
  fields := #[]
  methods := #[]
  instanceTypes := #[]
  staticTypes := #[]
  resolved := Array.replicate 7 none
  statics := none }

def pool5 : Array CpInfo := pool [(2, .class_ 4), (1, u "java/lang/Enum"), (0, u "name"), (0, u "Ljava/lang/String;"), (2, u "ordinal"), (0, u "I"), (1, .class_ 14), (1, u "java/lang/Object"), (4, u "hash"), (86, .class_ 108), (1, u "java/lang/Enum$EnumDesc"), (2, .class_ 112), (0, u "java/lang/constant/Constable"), (0, .class_ 114), (0, u "java/lang/Comparable"), (0, .class_ 116), (0, u "java/io/Serializable")] 87

/-- java/lang/Enum -/
def k5 : Class := { plain "java/lang/Enum" (some 0) with
  accessFlags := 1057
  interfaces := #[2, 3, 4]
  cf := some (fileOf pool5 2 #[.nestMembers #[106]] #[] 1057 12 #[111, 113, 115] #[{ accessFlags := 18, nameIndex := 5, descriptorIndex := 6, attributes := #[] }, { accessFlags := 18, nameIndex := 9, descriptorIndex := 10, attributes := #[] }, { accessFlags := 2, nameIndex := 19, descriptorIndex := 10, attributes := #[] }])
  fields := #[{ name := "name", type := (.object "java/lang/String"), accessFlags := 18, slot := 0, constantValue := 0 }, { name := "ordinal", type := .int, accessFlags := 18, slot := 1, constantValue := 0 }, { name := "hash", type := .int, accessFlags := 2, slot := 2, constantValue := 0 }]
  methods := #[]
  instanceTypes := #[(.object "java/lang/String"), .int, .int]
  staticTypes := #[]
  resolved := Array.replicate 204 none
  statics := none }

def pool6 : Array CpInfo := pool [(1, .class_ 2), (0, u "com/example/amendment_ledger/amendmentledger/ledger/Expression$Function"), (2, u "MAX"), (0, u "Lcom/example/amendment_ledger/amendmentledger/ledger/Expression$Function;"), (2, u "MIN"), (2, u "ROUND"), (2, u "ROUND_UP"), (2, u "ROUND_DOWN"), (2, u "$VALUES"), (0, u "[Lcom/example/amendment_ledger/amendmentledger/ledger/Expression$Function;"), (6, .class_ 31), (1, u "java/lang/Enum"), (8, u "written"), (0, u "Ljava/lang/String;"), (0, .fieldref 1 43), (0, .nameAndType 44 45), (0, u "fewestArguments"), (0, u "I"), (0, .fieldref 1 47), (0, .nameAndType 48 45), (0, u "mostArguments"), (94, u "checkArgumentCount"), (0, u "(I)V"), (9, .class_ 155), (0, u "com/example/amendment_ledger/amendmentledger/ledger/Expression")] 22

def k6c0 : Code := { maxStack := 5, maxLocals := 3, code := prog_23_method_6_code, exceptionTable := #[], attributes := #[] }
def k6m0 : Method := { name := "checkArgumentCount", desc := "(I)V", sig := { parameters := [.int], returnType := none }, accessFlags := 0, code := some k6c0 }
/-- com/example/amendment_ledger/amendmentledger/ledger/Expression$Function -/
def k6 : Class := { plain "com/example/amendment_ledger/amendmentledger/ledger/Expression$Function" (some 5) with
  accessFlags := 17441
  interfaces := #[]
  cf := some (fileOf pool6 1 #[.nestHost 154] #[{ accessFlags := 0, nameIndex := 143, descriptorIndex := 144, attributes := #[] }] 17441 29 #[] #[{ accessFlags := 16409, nameIndex := 5, descriptorIndex := 6, attributes := #[] }, { accessFlags := 16409, nameIndex := 9, descriptorIndex := 6, attributes := #[] }, { accessFlags := 16409, nameIndex := 12, descriptorIndex := 6, attributes := #[] }, { accessFlags := 16409, nameIndex := 15, descriptorIndex := 6, attributes := #[] }, { accessFlags := 16409, nameIndex := 18, descriptorIndex := 6, attributes := #[] }, { accessFlags := 18, nameIndex := 40, descriptorIndex := 41, attributes := #[] }, { accessFlags := 18, nameIndex := 44, descriptorIndex := 45, attributes := #[] }, { accessFlags := 18, nameIndex := 48, descriptorIndex := 45, attributes := #[] }, { accessFlags := 4122, nameIndex := 21, descriptorIndex := 22, attributes := #[] }])
  fields := #[{ name := "MAX", type := (.object "com/example/amendment_ledger/amendmentledger/ledger/Expression$Function"), accessFlags := 16409, slot := 0, constantValue := 0 }, { name := "MIN", type := (.object "com/example/amendment_ledger/amendmentledger/ledger/Expression$Function"), accessFlags := 16409, slot := 1, constantValue := 0 }, { name := "ROUND", type := (.object "com/example/amendment_ledger/amendmentledger/ledger/Expression$Function"), accessFlags := 16409, slot := 2, constantValue := 0 }, { name := "ROUND_UP", type := (.object "com/example/amendment_ledger/amendmentledger/ledger/Expression$Function"), accessFlags := 16409, slot := 3, constantValue := 0 }, { name := "ROUND_DOWN", type := (.object "com/example/amendment_ledger/amendmentledger/ledger/Expression$Function"), accessFlags := 16409, slot := 4, constantValue := 0 }, { name := "written", type := (.object "java/lang/String"), accessFlags := 18, slot := 3, constantValue := 0 }, { name := "fewestArguments", type := .int, accessFlags := 18, slot := 4, constantValue := 0 }, { name := "mostArguments", type := .int, accessFlags := 18, slot := 5, constantValue := 0 }, { name := "$VALUES", type := (.array (.object "com/example/amendment_ledger/amendmentledger/ledger/Expression$Function")), accessFlags := 4122, slot := 5, constantValue := 0 }]
  methods := #[k6m0]
  instanceTypes := #[(.object "java/lang/String"), .int, .int, (.object "java/lang/String"), .int, .int]
  staticTypes := #[(.object "com/example/amendment_ledger/amendmentledger/ledger/Expression$Function"), (.object "com/example/amendment_ledger/amendmentledger/ledger/Expression$Function"), (.object "com/example/amendment_ledger/amendmentledger/ledger/Expression$Function"), (.object "com/example/amendment_ledger/amendmentledger/ledger/Expression$Function"), (.object "com/example/amendment_ledger/amendmentledger/ledger/Expression$Function"), (.array (.object "com/example/amendment_ledger/amendmentledger/ledger/Expression$Function"))]
  resolved := Array.replicate 178 none
  statics := some 0 }

def pool7 : Array CpInfo := pool [(2, .class_ 4), (1, u "com/example/amendment_ledger/amendmentledger/ledger/Expression$Function"), (3, .class_ 10), (1, u "com/example/amendment_ledger/amendmentledger/ledger/Expression$Function$1"), (19, .class_ 31), (0, u "com/example/amendment_ledger/amendmentledger/ledger/Expression")] 2

/-- com/example/amendment_ledger/amendmentledger/ledger/Expression$Function$1 -/
def k7 : Class := { plain "com/example/amendment_ledger/amendmentledger/ledger/Expression$Function$1" (some 6) with
  accessFlags := 16432
  interfaces := #[]
  cf := some (fileOf pool7 8 #[.nestHost 30] #[] 16432 2 #[] #[])
  fields := #[]
  methods := #[]
  instanceTypes := #[(.object "java/lang/String"), .int, .int, (.object "java/lang/String"), .int, .int]
  staticTypes := #[]
  resolved := Array.replicate 34 none
  statics := none }

def pool8 : Array CpInfo := pool [(2, .class_ 4), (1, u "com/example/amendment_ledger/amendmentledger/ledger/Expression$Function"), (3, .class_ 10), (1, u "com/example/amendment_ledger/amendmentledger/ledger/Expression$Function$5"), (33, .class_ 45), (0, u "com/example/amendment_ledger/amendmentledger/ledger/Expression")] 2

/-- com/example/amendment_ledger/amendmentledger/ledger/Expression$Function$5 -/
def k8 : Class := { plain "com/example/amendment_ledger/amendmentledger/ledger/Expression$Function$5" (some 6) with
  accessFlags := 16432
  interfaces := #[]
  cf := some (fileOf pool8 8 #[.nestHost 44] #[] 16432 2 #[] #[])
  fields := #[]
  methods := #[]
  instanceTypes := #[(.object "java/lang/String"), .int, .int, (.object "java/lang/String"), .int, .int]
  staticTypes := #[]
  resolved := Array.replicate 48 none
  statics := none }

def pool9 : Array CpInfo := pool [(2, .class_ 4), (1, u "com/example/amendment_ledger/amendmentledger/ledger/Expression$Function"), (3, .class_ 10), (1, u "com/example/amendment_ledger/amendmentledger/ledger/Expression$Function$4"), (33, .class_ 45), (0, u "com/example/amendment_ledger/amendmentledger/ledger/Expression")] 2

/-- com/example/amendment_ledger/amendmentledger/ledger/Expression$Function$4 -/
def k9 : Class := { plain "com/example/amendment_ledger/amendmentledger/ledger/Expression$Function$4" (some 6) with
  accessFlags := 16432
  interfaces := #[]
  cf := some (fileOf pool9 8 #[.nestHost 44] #[] 16432 2 #[] #[])
  fields := #[]
  methods := #[]
  instanceTypes := #[(.object "java/lang/String"), .int, .int, (.object "java/lang/String"), .int, .int]
  staticTypes := #[]
  resolved := Array.replicate 48 none
  statics := none }

def pool10 : Array CpInfo := pool [(2, .class_ 4), (1, u "com/example/amendment_ledger/amendmentledger/ledger/Expression$Function"), (3, .class_ 10), (1, u "com/example/amendment_ledger/amendmentledger/ledger/Expression$Function$2"), (19, .class_ 31), (0, u "com/example/amendment_ledger/amendmentledger/ledger/Expression")] 2

/-- com/example/amendment_ledger/amendmentledger/ledger/Expression$Function$2 -/
def k10 : Class := { plain "com/example/amendment_ledger/amendmentledger/ledger/Expression$Function$2" (some 6) with
  accessFlags := 16432
  interfaces := #[]
  cf := some (fileOf pool10 8 #[.nestHost 30] #[] 16432 2 #[] #[])
  fields := #[]
  methods := #[]
  instanceTypes := #[(.object "java/lang/String"), .int, .int, (.object "java/lang/String"), .int, .int]
  staticTypes := #[]
  resolved := Array.replicate 34 none
  statics := none }

def pool11 : Array CpInfo := pool [(2, .class_ 4), (1, u "com/example/amendment_ledger/amendmentledger/ledger/Expression$Function"), (3, .class_ 10), (1, u "com/example/amendment_ledger/amendmentledger/ledger/Expression$Function$3"), (33, .class_ 45), (0, u "com/example/amendment_ledger/amendmentledger/ledger/Expression")] 2

/-- com/example/amendment_ledger/amendmentledger/ledger/Expression$Function$3 -/
def k11 : Class := { plain "com/example/amendment_ledger/amendmentledger/ledger/Expression$Function$3" (some 6) with
  accessFlags := 16432
  interfaces := #[]
  cf := some (fileOf pool11 8 #[.nestHost 44] #[] 16432 2 #[] #[])
  fields := #[]
  methods := #[]
  instanceTypes := #[(.object "java/lang/String"), .int, .int, (.object "java/lang/String"), .int, .int]
  staticTypes := #[]
  resolved := Array.replicate 48 none
  statics := none }

def pool12 : Array CpInfo := pool [(1, u "java/lang/Cloneable"), (0, .class_ 1), (0, u "java/lang/Object"), (0, .class_ 3)] 3

/-- java/lang/Cloneable -/
def k12 : Class := { plain "java/lang/Cloneable" (some 0) with
  accessFlags := 1537
  interfaces := #[]
  cf := some (fileOf pool12 2 #[] #[] 1537 4 #[] #[])
  fields := #[]
  methods := #[]
  instanceTypes := #[]
  staticTypes := #[]
  resolved := Array.replicate 8 none
  statics := none }

/-- the primitive byte -/
def k13 : Class := { plain "byte" none with kind := .primitive 'B', accessFlags := 0x411 }
/-- [B -/
def k14 : Class := { plain "[B" (some 0) with kind := .array 13 .byte, interfaces := #[12, 4], accessFlags := 1041 }

/-- the primitive int -/
def k15 : Class := { plain "int" none with kind := .primitive 'I', accessFlags := 0x411 }
/-- [I -/
def k16 : Class := { plain "[I" (some 0) with kind := .array 15 .int, interfaces := #[12, 4], accessFlags := 1041 }

def heap : Heap := #[{ cls := 6, slots := #[.ref 1, .ref 4, .ref 5, .ref 3, .ref 2, .null], vm := .statics 6 },
  { cls := 7, slots := #[.null, .int 0, .int 0, .null, .int 2, .int 2147483647], vm := .none },
  { cls := 8, slots := #[.null, .int 1, .int 0, .null, .int 2, .int 2], vm := .none },
  { cls := 9, slots := #[.null, .int 2, .int 0, .null, .int 2, .int 2], vm := .none },
  { cls := 10, slots := #[.null, .int 3, .int 0, .null, .int 2, .int 2147483647], vm := .none },
  { cls := 11, slots := #[.null, .int 4, .int 0, .null, .int 2, .int 2], vm := .none }]
def classes : Array Class := #[k0, k1, k2, k3, k4, k5, k6, k7, k8, k9, k10, k11, k12, k13, k14, k15, k16]
def interned : List (Array UInt16 × Addr) := []
def slotsUsed : Nat := 36
def theMethod : MethodId := ⟨1, 1⟩
def args0 : Array Value := #[.int 5, .int 7]
def aboutOver (below : List Frame) : State where
  vm := { classes := classes, interned := interned.toArray }
  heap := heap
  slotsUsed := slotsUsed
  threads := #[{ frames := .invoking theMethod args0 :: below }]
def below0 : List Frame := [.native { method := ⟨0, 0⟩, args := #[] }]
def about1 : State := aboutOver below0
def p0 : Program := .bare "" "" ""
def e0 : Env := launch0.env 0 0 0
theorem w_frames : about1.frames = Frame.invoking theMethod args0 :: below0 := rfl
set_option maxRecDepth 65536 in
theorem w_args : argsFit about1.vm theMethod args0 = true := by decide +kernel
set_option maxRecDepth 65536 in
theorem w_heap : heapFits about1 = true := by decide +kernel
set_option maxRecDepth 65536 in
theorem w_runnable : about1.curStatus? = some .runnable := by decide +kernel
set_option maxRecDepth 65536 in
theorem w_alone : about1.alone = true := by decide +kernel
set_option maxRecDepth 65536 in
theorem w_named : about1.methodNamed? x = some theMethod := by decide +kernel
set_option maxRecDepth 65536 in
theorem w_hears : about1.hears theMethod below0 = true := by decide +kernel
set_option maxRecDepth 65536 in
theorem w_ripe : about1.ripe theMethod args0 below0 = true := by decide +kernel
theorem w_running : about1.status = .running := rfl
set_option maxRecDepth 65536 in
theorem w_room : about1.hasRoom e0.platform room_1 = true :=
  launch0.hasRoom_least _ room_1 (by decide +kernel) (by decide +kernel) (by decide +kernel) (by decide +kernel) (by decide +kernel) (by decide +kernel)
theorem allAtoms_all (ts : List Jvm.Cond) (a : Array Jvm.Value) (st : Jvm.State) : (allAtoms ts).before a st = ts.all (fun c => c.before a st) := by
  induction ts with
  | nil => rfl
  | cons c t ih =>
    show (Jvm.Cond.and c (allAtoms t)).before a st = _
    rw [Jvm.Cond.before_and, ih, List.all_cons]
def words1 : List Jvm.Cond := Jvm.Cond.code x code maxLocals ret :: tables_1
/-- a 'code' word, met by the world's own term for the bytes: nothing is compared byte by byte -/
theorem code_word {y : MethodName} {bytes : ByteArray} {mx : Nat} {rt : Option FieldType} {a : Array Value} {s : State} {m : MethodId} {meth : Method} {c : Code} (h1 : s.methodNamed? y = some m) (h2 : s.vm.method? m = some meth) (h3 : meth.code = some c) (h4 : c.code = bytes)
    (h5 : (c.maxLocals == mx && c.exceptionTable.isEmpty && decide (c.maxStack ≤ mostOperands) && decide (meth.sig.returnType = rt) && !meth.locks && decide (parseMethodDescriptor y.desc = some meth.sig)) = true) : (Jvm.Cond.code y bytes mx rt).before a s = true := by
  simp only [Bool.and_eq_true, beq_iff_eq, Bool.not_eq_true', decide_eq_true_eq] at h5
  obtain ⟨⟨⟨⟨⟨g1, g2⟩, g3⟩, g4⟩, g5⟩, g6⟩ := h5
  simp [Cond.before, Cond.holds, Cond.value, h1, h2, h3, h4, g1, g2, g3, g4, g5, g6]
def isCode : Jvm.Cond → Bool
  | .code _ _ _ _ => true
  | _ => false
theorem all_split {L : List Jvm.Cond} {P : Jvm.Cond → Bool} (h1 : L.all (fun c => isCode c || P c) = true) (h2 : ∀ c ∈ L.filter isCode, P c = true) : L.all P = true := by
  refine List.all_eq_true.mpr fun c hc => ?_
  have h := List.all_eq_true.mp h1 c hc
  rcases Bool.eq_false_or_eq_true (isCode c) with hi | hi
  · exact h2 c (List.mem_filter.mpr ⟨hc, hi⟩)
  · simpa [hi] using h
set_option maxRecDepth 65536 in
theorem w_c0 : (Jvm.Cond.code x code maxLocals ret).before args0 about1 = true := code_word (m := ⟨1, 1⟩) (meth := k1m1) (c := k1c1) (by decide +kernel) rfl rfl rfl (by decide +kernel)
set_option maxRecDepth 65536 in
theorem w_c1 : (Jvm.Cond.code ({ cls := "com/example/amendment_ledger/amendmentledger/ledger/Expression$Function", name := "checkArgumentCount", desc := "(I)V" } : Jvm.MethodName) prog_23_method_6_code (3 : Nat) (Option.none : Option Jvm.ClassFile.FieldType)).before args0 about1 = true := code_word (m := ⟨6, 0⟩) (meth := k6m0) (c := k6c0) (by decide +kernel) rfl rfl rfl (by decide +kernel)
def codes1 : List Jvm.Cond := [Jvm.Cond.code x code maxLocals ret, Jvm.Cond.code ({ cls := "com/example/amendment_ledger/amendmentledger/ledger/Expression$Function", name := "checkArgumentCount", desc := "(I)V" } : Jvm.MethodName) prog_23_method_6_code (3 : Nat) (Option.none : Option Jvm.ClassFile.FieldType)]
set_option maxRecDepth 65536 in
theorem codes_eq : words1.filter isCode = codes1 := rfl
theorem w_codes : ∀ c ∈ words1.filter isCode, c.before args0 about1 = true := by
  rw [codes_eq]
  intro c hc
  simp only [codes1, List.mem_cons, List.not_mem_nil, or_false] at hc
  rcases hc with rfl | rfl
  · exact w_c0
  · exact w_c1
set_option maxRecDepth 65536 in
theorem w_t1 : (words1.take 24).all (fun c => isCode c || c.before args0 about1) = true := by decide +kernel
set_option maxRecDepth 65536 in
theorem w_t2 : (words1.drop 24).all (fun c => isCode c || c.before args0 about1) = true := by decide +kernel
theorem w_tables : (allAtoms (Jvm.Cond.code x code maxLocals ret :: tables_1)).before args0 about1 = true := by
  rw [allAtoms_all]
  show words1.all (fun c => c.before args0 about1) = true
  refine all_split ?_ w_codes
  rw [← List.take_append_drop 24 words1, List.all_append, w_t1, w_t2]
  rfl
set_option maxRecDepth 65536 in
theorem w_case : (Jvm.Cond.and given_1 narrow_1).before args0 about1 = true := by decide +kernel
theorem w_applies : (headSpec (Jvm.Cond.code x code maxLocals ret :: tables_1) room_1).applies x e0.platform about1 = true :=
  (Spec.applies_iff w_frames).mpr ⟨w_running, w_runnable, w_alone, w_named, w_hears, w_ripe, w_room, w_tables⟩
theorem atStart : AtStart classFile x code maxLocals ret World_1 tables_1 room_1 Calls_1 rest_1 Pre_1 launch0 p0 e0 about1 theMethod args0 below0 :=
  ⟨lists_1, trivial, launch0.admits_env _ _ _, launch0.least_env, fairChoices_fair.cas, fairChoices_fair.clock, w_frames, w_args, w_heap, w_applies, trivial, trivial, w_case⟩
end start1
theorem witness_1 : WitnessClaimed_1 := ⟨start1.p0, start1.e0, start1.about1, start1.theMethod, start1.args0, start1.below0, start1.atStart⟩
end Jvm.Pilot.@@N@@
