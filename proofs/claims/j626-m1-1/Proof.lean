import JvmDerived
import JvmDerived.Pilot.@@N@@Statement
import JvmDerived.Pilot.@@N@@Code
set_option linter.unusedVariables false
set_option linter.unusedSimpArgs false
namespace Jvm.Pilot.@@N@@
open Jvm Jvm.ClassFile Sem Op Lib Jvm.Free Jvm.Stand Jvm.LawKit Jvm.RoadKit Bundle Jvm.Pilot.@@N@@.Jvm.D
section OwnKit
variable {p : Program} {l : Launch} {e : Env} {R : Room} {s : State} {m : MethodId} {args : Array Value} {below : List Frame} {meth : Method} {c : Code} {T T' : State} {locs : List Loc} {cells slots : Nat} {Q : Option Value → Heap → List Loc → Prop} {k n : Nat} {Fin : Outcome → State → Prop} {Z : State} {a0 : Array Value} {h : Heap} {pc : Nat} {Ls : Array Slot} {rest : List Value}
/-- from this frame on the body ends as Fin says -/
def own_Go (p : Program) (e : Env) (below : List Frame) (Fin : Outcome → State → Prop) (T : State) (f : JFrame) : Prop :=
  ∃ s₂ o, Steps p.tables e below (T.setTop f) s₂ ∧ s₂.status = .running ∧ Ended s₂ below o ∧ Fin o s₂
/-- it returned, as Q says; the frame as ever -/
def own_Fin (s : State) (Q : Option Value → Heap → List Loc → Prop) (k n : Nat) (o : Outcome) (t : State) : Prop := ∃ v L, o = .returned v ∧ Q v t.heap L ∧ FrameEnd s o t L k n
/-- it returned, as Q says; String constants may have been resolved -/
def own_FinW (s : State) (Q : Option Value → Heap → List Loc → Prop) (k n : Nat) (o : Outcome) (t : State) : Prop := ∃ v L, o = .returned v ∧ Q v t.heap L ∧ ReturnedEndW s o t L k n
theorem own_by {f f' : JFrame} (st : ∀ t, Steps p.tables e below (T'.setTop f') t → Steps p.tables e below (T.setTop f) t) (g : own_Go p e below Fin T' f') : own_Go p e below Fin T f := by
  obtain ⟨s₂, o, h, r⟩ := g
  exact ⟨s₂, o, st _ h, r⟩
theorem own_start {f f' : JFrame} (q : f = f') (g : own_Go p e below (own_Fin s Q k n) T f') : ∃ s₂ o, Steps p.tables e below (T.setTop f) s₂ ∧ s₂.status = .running ∧ Ended s₂ below o ∧ ∃ v L, o = .returned v ∧ Q v s₂.heap L ∧ FrameEnd s o s₂ L k n := by
  subst q; exact g
theorem own_startW {f f' : JFrame} (q : f = f') (g : own_Go p e below (own_FinW s Q k n) T f') : ∃ s₂ o, Steps p.tables e below (T.setTop f) s₂ ∧ s₂.status = .running ∧ Ended s₂ below o ∧ ∃ v L, o = .returned v ∧ Q v s₂.heap L ∧ ReturnedEndW s o s₂ L k n := by
  subst q; exact g
theorem own_ret (X : Stand p l e R s m args below meth c T locs cells slots) (hx : p.tables.exec = Jvm.exec) (hlk : meth.locks = false) {w : Value} {t : FieldType} {i : Instr} (hret : meth.sig.returnType = some t)
    (hi : (i = .ireturn ∧ (t = .int ∨ t = .boolean ∨ t = .byte ∨ t = .char ∨ t = .short) ∧ ∃ z, w = .int z) ∨ (i = .lreturn ∧ t = .long ∧ ∃ z, w = .long z) ∨ (i = .dreturn ∧ t = .double ∧ ∃ z, w = .double z) ∨ (i = .freturn ∧ t = .float ∧ ∃ z, w = .float z) ∨ (i = .areturn ∧ t.isReference = true ∧ w.isRef = true))
    (hn : narrow t w = w) (hd : decode c.code pc = .ok (i, 1)) (eT : T.heap = h) (hk : cells ≤ k) (hs : slots ≤ n) (q : Q (some w) h locs) : own_Go p e below (own_Fin s Q k n) T (mkF m pc Ls (w :: rest)) := by
  obtain ⟨fs, hr, hrun, hended, hW, hsame⟩ := X.leave (v := some w) (fun h => by rw [hret] at h; cases h) hlk
  refine ⟨_, _, retOut X hx hret hn hi hd hr, hrun, hended, _, _, rfl, ?_, ⟨_, rfl⟩, hW, hsame.mono hk hs⟩
  show Q _ T.heap _
  rw [eT]; exact q
theorem own_retI (X : Stand p l e R s m args below meth c T locs cells slots) (hx : p.tables.exec = Jvm.exec) (hlk : meth.locks = false) {z : Int32} (hret : meth.sig.returnType = some .int) (hd : decode c.code pc = .ok (.ireturn, 1)) (eT : T.heap = h) (hk : cells ≤ k) (hs : slots ≤ n) (q : Q (some (.int z)) h locs) : own_Go p e below (own_Fin s Q k n) T (mkF m pc Ls (.int z :: rest)) :=
  own_ret X hx hlk hret (Or.inl ⟨rfl, Or.inl rfl, z, rfl⟩) rfl hd eT hk hs q
theorem own_retZ (X : Stand p l e R s m args below meth c T locs cells slots) (hx : p.tables.exec = Jvm.exec) (hlk : meth.locks = false) {z : Int32} (hret : meth.sig.returnType = some .boolean) (hz : z = 0 ∨ z = 1) (hd : decode c.code pc = .ok (.ireturn, 1)) (eT : T.heap = h) (hk : cells ≤ k) (hs : slots ≤ n) (q : Q (some (.int z)) h locs) : own_Go p e below (own_Fin s Q k n) T (mkF m pc Ls (.int z :: rest)) :=
  own_ret X hx hlk hret (Or.inl ⟨rfl, Or.inr (Or.inl rfl), z, rfl⟩) (by rcases hz with rfl | rfl <;> rfl) hd eT hk hs q
theorem own_retJ (X : Stand p l e R s m args below meth c T locs cells slots) (hx : p.tables.exec = Jvm.exec) (hlk : meth.locks = false) {z : Int64} (hret : meth.sig.returnType = some .long) (hd : decode c.code pc = .ok (.lreturn, 1)) (eT : T.heap = h) (hk : cells ≤ k) (hs : slots ≤ n) (q : Q (some (.long z)) h locs) : own_Go p e below (own_Fin s Q k n) T (mkF m pc Ls (.long z :: rest)) :=
  own_ret X hx hlk hret (Or.inr (Or.inl ⟨rfl, rfl, z, rfl⟩)) rfl hd eT hk hs q
theorem own_retR (X : Stand p l e R s m args below meth c T locs cells slots) (hx : p.tables.exec = Jvm.exec) (hlk : meth.locks = false) {w : Value} {t : FieldType} (hret : meth.sig.returnType = some t) (ht : t.isReference = true) (hw : w.isRef = true) (hn : narrow t w = w) (hd : decode c.code pc = .ok (.areturn, 1)) (eT : T.heap = h) (hk : cells ≤ k) (hs : slots ≤ n) (q : Q (some w) h locs) : own_Go p e below (own_Fin s Q k n) T (mkF m pc Ls (w :: rest)) :=
  own_ret X hx hlk hret (Or.inr (Or.inr (Or.inr (Or.inr ⟨rfl, ht, hw⟩)))) hn hd eT hk hs q
theorem own_retV (X : Stand p l e R s m args below meth c T locs cells slots) (hx : p.tables.exec = Jvm.exec) (hlk : meth.locks = false) (hret : meth.sig.returnType = none) (hd : decode c.code pc = .ok (.return_, 1)) (eT : T.heap = h) (hk : cells ≤ k) (hs : slots ≤ n) (q : Q none h locs) : own_Go p e below (own_Fin s Q k n) T (mkF m pc Ls []) := by
  obtain ⟨fs, hr, hrun, hended, hW, hsame⟩ := X.leave (v := none) (fun _ => rfl) hlk
  refine ⟨_, _, X.returnOut hx hret hd hr, hrun, hended, _, _, rfl, ?_, ⟨_, rfl⟩, hW, hsame.mono hk hs⟩
  show Q _ T.heap _
  rw [eT]; exact q
/-- a conditional branch as a plain comparison -/
def own_cnd : ClassFile.Cond → Int32 → Int32 → Prop
  | .eq, x, y => x = y
  | .ne, x, y => ¬ x = y
  | .lt, x, y => x < y
  | .ge, x, y => ¬ x < y
  | .gt, x, y => y < x
  | .le, x, y => ¬ y < x
def own_neg : ClassFile.Cond → ClassFile.Cond
  | .eq => .ne
  | .ne => .eq
  | .lt => .ge
  | .ge => .lt
  | .gt => .le
  | .le => .gt
theorem own_holds (cd : ClassFile.Cond) (x y : Int32) : (if_icmp.holds cd x y = true ∧ own_cnd cd x y) ∨ (if_icmp.holds cd x y = false ∧ own_cnd (own_neg cd) x y) := by
  cases cd
  case eq => by_cases q : x = y; · exact Or.inl ⟨(teq q).1, q⟩
             · exact Or.inr ⟨(feq q).1, q⟩
  case ne => by_cases q : x = y; · exact Or.inr ⟨(teq q).2, q⟩
             · exact Or.inl ⟨(feq q).2, q⟩
  case lt => by_cases q : x < y; · exact Or.inl ⟨(tlt q).1, q⟩
             · exact Or.inr ⟨(flt q).1, q⟩
  case ge => by_cases q : x < y; · exact Or.inr ⟨(tlt q).2.1, q⟩
             · exact Or.inl ⟨(flt q).2.1, q⟩
  case gt => by_cases q : y < x; · exact Or.inl ⟨(tlt q).2.2.1, q⟩
             · exact Or.inr ⟨(flt q).2.2.1, q⟩
  case le => by_cases q : y < x; · exact Or.inr ⟨(tlt q).2.2.2, q⟩
             · exact Or.inl ⟨(flt q).2.2.2, q⟩
theorem own_icmp (X : Stand p l e R s m args below meth c T locs cells slots) (hx : p.tables.exec = Jvm.exec) {cd : ClassFile.Cond} {x y : Int32} {o : Int} (pc' : Nat) (hd : decode c.code pc = .ok (.if_icmp cd o, 3)) (ho : 0 ≤ (pc : Int) + o) (hp : ((pc : Int) + o).toNat = pc')
    (g1 : own_cnd cd x y → own_Go p e below Fin T (mkF m pc' Ls rest)) (g2 : own_cnd (own_neg cd) x y → own_Go p e below Fin T (mkF m (pc + 3) Ls rest)) : own_Go p e below Fin T (mkF m pc Ls (.int y :: .int x :: rest)) := by
  rcases own_holds cd x y with ⟨q, q'⟩ | ⟨q, q'⟩
  · exact own_by (fun t kk => XS.icmpYes X.here hx rfl (pc0 := pc) (pc' := pc') rfl hd rfl q ho hp kk) (g1 q')
  · exact own_by (fun t kk => XS.icmpNo X.here hx rfl hd rfl q kk) (g2 q')
theorem own_if (X : Stand p l e R s m args below meth c T locs cells slots) (hx : p.tables.exec = Jvm.exec) {cd : ClassFile.Cond} {x : Int32} {o : Int} (pc' : Nat) (hd : decode c.code pc = .ok (.ifCond cd o, 3)) (ho : 0 ≤ (pc : Int) + o) (hp : ((pc : Int) + o).toNat = pc')
    (g1 : own_cnd cd x 0 → own_Go p e below Fin T (mkF m pc' Ls rest)) (g2 : own_cnd (own_neg cd) x 0 → own_Go p e below Fin T (mkF m (pc + 3) Ls rest)) : own_Go p e below Fin T (mkF m pc Ls (.int x :: rest)) := by
  rcases own_holds cd x 0 with ⟨q, q'⟩ | ⟨q, q'⟩
  · exact own_by (fun t kk => XS.ifYes X.here hx rfl (pc0 := pc) (pc' := pc') rfl hd rfl ((if0 _ _).trans q) ho hp kk) (g1 q')
  · exact own_by (fun t kk => XS.ifNo X.here hx rfl hd rfl ((if0 _ _).trans q) kk) (g2 q')
/-- a static call by the callee's contract -/
theorem own_callS (X : Stand p l e R s m args below meth c T locs cells slots) (hx : p.tables.exec = Jvm.exec) (hZ : Z.Warmed39 s.vm) {own : String} {index : Nat} {y : MethodName} {bytes : ByteArray} {maxL W : Nat} {ret : Option FieldType} {rm : Room} {Qc : Option Value → Heap → List Loc → Prop}
    (hown : s.vm.findClass own = some m.cls) (w1 : (Cond.methodLink own index y).before a0 Z = true) (w2 : (Cond.static y).before a0 Z = true) (w3 : (Cond.initialized y.cls).before a0 Z = true) (w4 : (Cond.code y bytes maxL ret).before a0 Z = true)
    (hy : y.cls ≠ "java/lang/invoke/MethodHandle" ∧ y.cls ≠ "java/lang/invoke/VarHandle") (hml : Ls.size = c.maxLocals) {argsL : List Value} {ps : List FieldType} {rt : Option FieldType} (pd : parseMethodDescriptor y.desc = some ⟨ps, rt⟩) (hlen : argsL.length = ps.length)
    (hM : MetFree l y (head1 [Cond.code y bytes maxL ret] rm) (fun a U => a = argsL.toArray ∧ Z.Warmed39 U.vm ∧ U.heap = h) (fun _ _ _ _ _ => True) (fun _ U o U' => ∃ v L, o = .returned v ∧ Qc v U'.heap L ∧ FrameEnd U o U' L rm.cells rm.slots))
    (hf : rm.frames + 1 ≤ R.frames) (hl : W + (maxL + 11) + rm.locals ≤ R.locals) (hW : (rest.map fun v => v.category).sum ≤ W) (hc : cells + rm.cells ≤ R.cells) (hs : slots + rm.slots ≤ R.slots) (eT : T.heap = h) {st : List Value} (hst : st = argsL.reverse ++ rest) (hd : decode c.code pc = .ok (.invokestatic index, 3))
    (g : ∀ (v : Option Value) (T' : State) (L : List Loc), Stand p l e R s m args below meth c T' (locs ++ L) (cells + rm.cells) (slots + rm.slots) → Qc v T'.heap L → own_Go p e below Fin T' (mkF m (pc + 3) Ls (v.toList ++ rest))) :
    own_Go p e below Fin T (mkF m pc Ls st) := by
  subst hst
  obtain ⟨v, _, ⟨T2, L2, k2, n2⟩, -, X2, ⟨Lc2, hQ2, l2, y2, z2⟩, st2⟩ := Jvm.LawKit.callS X hx (y := y) hown (mvT hZ w1) (mvT hZ w2) (mvT hZ w3) (mvT hZ w4) hy (backOf (W := W) hM hZ w4 w3 hf hl) (g := (mkF m pc Ls (argsL.reverse ++ rest))) rfl hml (argsL := argsL) (rest := rest) (lenOf pd hlen) rfl (by show 2 * 0 + _ ≤ _; omega) hd (fun _ _ => ⟨rfl, eT, hc, hs⟩)
  dsimp only [Pt.U, Pt.locs, Pt.cells, Pt.slots] at X2 l2 y2 z2 st2 hQ2
  subst l2 y2 z2
  exact own_by (fun t kk => st2 _ kk) (g v T2 Lc2 X2 hQ2)
/-- a constructor by its contract -/
theorem own_callC (X : Stand p l e R s m args below meth c T locs cells slots) (hx : p.tables.exec = Jvm.exec) (hZ : Z.Warmed39 s.vm) {own : String} {index : Nat} {y : MethodName} {bytes : ByteArray} {maxL W : Nat} {rm : Room} {Qc : Option Value → Heap → List Loc → Prop} (hy1 : y.name = "<init>")
    (hown : s.vm.findClass own = some m.cls) (w1 : (Cond.methodLink own index y).before a0 Z = true) (w2 : (Cond.instanceMethod y).before a0 Z = true) (w3 : (Cond.initialized y.cls).before a0 Z = true) (w4 : (Cond.code y bytes maxL none).before a0 Z = true)
    (hy : y.cls ≠ "java/lang/invoke/MethodHandle" ∧ y.cls ≠ "java/lang/invoke/VarHandle") (hml : Ls.size = c.maxLocals) {a : Addr} {argsL : List Value} {ps : List FieldType} {rt : Option FieldType} (pd : parseMethodDescriptor y.desc = some ⟨ps, rt⟩) (hlen : argsL.length = ps.length)
    (hM : MetFree l y (head1 [Cond.code y bytes maxL none] rm) (fun b U => b = (.ref a :: argsL).toArray ∧ Z.Warmed39 U.vm ∧ U.heap = h) (fun _ _ _ _ _ => True) (fun _ U o U' => ∃ v L, o = .returned v ∧ Qc v U'.heap L ∧ FrameEnd U o U' L rm.cells rm.slots))
    (hf : rm.frames + 1 ≤ R.frames) (hl : W + (maxL + 11) + rm.locals ≤ R.locals) (hW : (rest.map fun v => v.category).sum ≤ W) (hc : cells + rm.cells ≤ R.cells) (hs : slots + rm.slots ≤ R.slots) (eT : T.heap = h) {st : List Value} (hst : st = argsL.reverse ++ .ref a :: rest) (hd : decode c.code pc = .ok (.invokespecial index, 3))
    (g : ∀ (v : Option Value) (T' : State) (L : List Loc), Stand p l e R s m args below meth c T' (locs ++ L) (cells + rm.cells) (slots + rm.slots) → Qc v T'.heap L → own_Go p e below Fin T' (mkF m (pc + 3) Ls (v.toList ++ rest))) :
    own_Go p e below Fin T (mkF m pc Ls st) := by
  subst hst
  obtain ⟨v, _, ⟨T2, L2, k2, n2⟩, -, X2, ⟨Lc2, hQ2, l2, y2, z2⟩, st2⟩ := X.specialBack hx (y := y) hy1 hown (mvT hZ w1) (mvT hZ w2) (mvT hZ w4) hy (backOf (W := W) hM hZ w4 w3 hf hl) (g := (mkF m pc Ls (argsL.reverse ++ .ref a :: rest))) rfl hml (Steps.refl _) (a := a) (argsL := argsL) (rest := rest) (lenOf pd hlen) rfl (by show 2 * 0 + _ ≤ _; omega) hd (fun _ _ => ⟨rfl, eT, hc, hs⟩)
  dsimp only [Pt.U, Pt.locs, Pt.cells, Pt.slots] at X2 l2 y2 z2 st2 hQ2
  subst l2 y2 z2
  exact own_by (fun t kk => st2.trans kk) (g v T2 Lc2 X2 hQ2)
/-- an instance method of the receiver's own class by its contract -/
theorem own_callV (X : Stand p l e R s m args below meth c T locs cells slots) (hx : p.tables.exec = Jvm.exec) (hZ : Z.Warmed39 s.vm) {own C : String} {index : Nat} {y z : MethodName} {bytes : ByteArray} {maxL W : Nat} {ret : Option FieldType} {rm : Room} {Qc : Option Value → Heap → List Loc → Prop}
    (hown : s.vm.findClass own = some m.cls) (w1 : (Cond.methodLink own index y).before a0 Z = true) (wd : (Cond.declares y).before a0 Z = true) (nf : NotFace s y) (ws : (Cond.selects C y z).before a0 Z = true) (w2 : (Cond.instanceMethod z).before a0 Z = true) (w3 : (Cond.initialized z.cls).before a0 Z = true) (w4 : (Cond.code z bytes maxL ret).before a0 Z = true)
    (hy : y.cls ≠ "java/lang/invoke/MethodHandle" ∧ y.cls ≠ "java/lang/invoke/VarHandle") (hml : Ls.size = c.maxLocals) {a : Addr} {argsL : List Value} {ps : List FieldType} {rt : Option FieldType} (pd : parseMethodDescriptor y.desc = some ⟨ps, rt⟩) (hlen : argsL.length = ps.length)
    (eT : T.heap = h) (E : Exa Z h a C)
    (hM : MetFree l z (head1 [Cond.code z bytes maxL ret] rm) (fun b U => b = (.ref a :: argsL).toArray ∧ Z.Warmed39 U.vm ∧ U.heap = h) (fun _ _ _ _ _ => True) (fun _ U o U' => ∃ v L, o = .returned v ∧ Qc v U'.heap L ∧ FrameEnd U o U' L rm.cells rm.slots))
    (hf : rm.frames + 1 ≤ R.frames) (hl : W + (maxL + 11) + rm.locals ≤ R.locals) (hW : (rest.map fun v => v.category).sum ≤ W) (hc : cells + rm.cells ≤ R.cells) (hs : slots + rm.slots ≤ R.slots) {st : List Value} (hst : st = argsL.reverse ++ .ref a :: rest) (hd : decode c.code pc = .ok (.invokevirtual index, 3))
    (g : ∀ (v : Option Value) (T' : State) (L : List Loc), Stand p l e R s m args below meth c T' (locs ++ L) (cells + rm.cells) (slots + rm.slots) → Qc v T'.heap L → own_Go p e below Fin T' (mkF m (pc + 3) Ls (v.toList ++ rest))) :
    own_Go p e below Fin T (mkF m pc Ls st) := by
  subst hst
  obtain ⟨cq, kq, qa, qb, qc⟩ := isOf hZ eT E
  obtain ⟨v, _, ⟨T2, L2, k2, n2⟩, -, X2, ⟨Lc2, hQ2, l2, y2, z2⟩, st2⟩ := X.virtualBack hx (y := y) (z := z) hown (mvT hZ w1) (mvT hZ wd) nf (mvT hZ ws) (mvT hZ w2) hy (backOf (W := W) hM hZ w4 w3 hf hl) qa qc (g := (mkF m pc Ls (argsL.reverse ++ .ref a :: rest))) rfl hml (Steps.refl _) (argsL := argsL) (rest := rest) (lenOf pd hlen) rfl (by show 2 * 0 + _ ≤ _; omega) hd (fun _ _ => ⟨rfl, eT, hc, hs⟩)
  dsimp only [Pt.U, Pt.locs, Pt.cells, Pt.slots] at X2 l2 y2 z2 st2 hQ2
  subst l2 y2 z2
  exact own_by (fun t kk => st2.trans kk) (g v T2 Lc2 X2 hQ2)
theorem own_getF (X : Stand p l e R s m args below meth c T locs cells slots) (hx : p.tables.exec = Jvm.exec) (hZ : Z.Warmed39 s.vm) {own R0 O nm d : String} {index : Nat} (hown : s.vm.findClass own = some m.cls) (w : (Cond.fieldLink own index R0 nm d).before a0 Z = true) (via : Via Z R0 O nm d) (eT : T.heap = h) {a : Addr} {v : Value} (F : Fld Z h a O nm d v) (hd : decode c.code pc = .ok (.getfield index, 3))
    (g : ∀ T', Stand p l e R s m args below meth c T' locs cells slots → T'.heap = h → own_Go p e below Fin T' (mkF m (pc + 3) Ls (v :: rest))) : own_Go p e below Fin T (mkF m pc Ls (.ref a :: rest)) := by
  obtain ⟨T', X', e', st⟩ := getF X hx hZ hown (host := "") (Or.inl w) via eT F (g := mkF m pc Ls (.ref a :: rest)) rfl rfl hd
  exact own_by (fun t kk => st _ kk) (g T' X' e')
theorem own_getFN (X : Stand p l e R s m args below meth c T locs cells slots) (hx : p.tables.exec = Jvm.exec) (hZ : Z.Warmed39 s.vm) {own R0 O nm d host : String} {index : Nat} (hown : s.vm.findClass own = some m.cls) (w : (Cond.fieldLinkNest own index R0 nm d host).before a0 Z = true) (via : Via Z R0 O nm d) (eT : T.heap = h) {a : Addr} {v : Value} (F : Fld Z h a O nm d v) (hd : decode c.code pc = .ok (.getfield index, 3))
    (g : ∀ T', Stand p l e R s m args below meth c T' locs cells slots → T'.heap = h → own_Go p e below Fin T' (mkF m (pc + 3) Ls (v :: rest))) : own_Go p e below Fin T (mkF m pc Ls (.ref a :: rest)) := by
  obtain ⟨T', X', e', st⟩ := getF X hx hZ hown (Or.inr w) via eT F (g := mkF m pc Ls (.ref a :: rest)) rfl rfl hd
  exact own_by (fun t kk => st _ kk) (g T' X' e')
theorem own_getS (X : Stand p l e R s m args below meth c T locs cells slots) (hx : p.tables.exec = Jvm.exec) (hZ : Z.Warmed39 s.vm) {own R0 O nm d : String} {index : Nat} (hown : s.vm.findClass own = some m.cls) (w : (Cond.fieldLink own index R0 nm d).before a0 Z = true) (via : Via Z R0 O nm d) (eT : T.heap = h) {v : Value} (F : Sta Z h O nm d v) (hd : decode c.code pc = .ok (.getstatic index, 3)) {st0 : List Value}
    (g : ∀ T', Stand p l e R s m args below meth c T' locs cells slots → T'.heap = h → own_Go p e below Fin T' (mkF m (pc + 3) Ls (v :: st0))) : own_Go p e below Fin T (mkF m pc Ls st0) := by
  obtain ⟨T', X', e', st⟩ := getS2 X hx hZ hown (host := "") (Or.inl w) via eT F (g := mkF m pc Ls st0) rfl hd
  exact own_by (fun t kk => st _ kk) (g T' X' e')
theorem own_getSN (X : Stand p l e R s m args below meth c T locs cells slots) (hx : p.tables.exec = Jvm.exec) (hZ : Z.Warmed39 s.vm) {own R0 O nm d host : String} {index : Nat} (hown : s.vm.findClass own = some m.cls) (w : (Cond.fieldLinkNest own index R0 nm d host).before a0 Z = true) (via : Via Z R0 O nm d) (eT : T.heap = h) {v : Value} (F : Sta Z h O nm d v) (hd : decode c.code pc = .ok (.getstatic index, 3)) {st0 : List Value}
    (g : ∀ T', Stand p l e R s m args below meth c T' locs cells slots → T'.heap = h → own_Go p e below Fin T' (mkF m (pc + 3) Ls (v :: st0))) : own_Go p e below Fin T (mkF m pc Ls st0) := by
  obtain ⟨T', X', e', st⟩ := getS2 X hx hZ hown (Or.inr w) via eT F (g := mkF m pc Ls st0) rfl hd
  exact own_by (fun t kk => st _ kk) (g T' X' e')
theorem own_putF (X : Stand p l e R s m args below meth c T locs cells slots) (hx : p.tables.exec = Jvm.exec) (hZ : Z.Warmed39 s.vm) {own R0 O nm d C : String} {index kk : Nat} {ty : FieldType} (hown : s.vm.findClass own = some m.cls) (w : (Cond.fieldLink own index R0 nm d).before a0 Z = true) (via : Via Z R0 O nm d) (eT : T.heap = h) {a : Addr} {v old : Value} (F : Fld Z h a O nm d old) (E : Exa Z h a C)
    (L : (Cond.lays C O nm d).before a0 Z = true ∨ ((Cond.laysFinal C O nm d).before a0 Z = true ∧ own = O ∧ meth.name = "<init>")) (wi : (Cond.instantiable C kk).before a0 Z = true) (hty : parseFieldDescriptor d = some ty) (hn : narrow ty v = v) (hf : fits ty v = true) (hd : decode c.code pc = .ok (.putfield index, 3))
    (g : ∀ T' h', Stand p l e R s m args below meth c T' (locs ++ [⟨a, Jvm.RoadKit.slotOf Z O nm d⟩]) cells slots → T'.heap = h' → Wr h h' a (Jvm.RoadKit.slotOf Z O nm d) v → own_Go p e below Fin T' (mkF m (pc + 3) Ls rest)) : own_Go p e below Fin T (mkF m pc Ls (v :: .ref a :: rest)) := by
  obtain ⟨T', h', X', e', W', st⟩ := putF X hx hZ hown (host := "") (Or.inl w) via eT F E L wi hty hn hf (g := mkF m pc Ls (v :: .ref a :: rest)) rfl rfl hd
  exact own_by (fun t kk => st _ kk) (g T' h' X' e' W')
theorem own_newO (X : Stand p l e R s m args below meth c T locs cells slots) (hx : p.tables.exec = Jvm.exec) (hZ : Z.Warmed39 s.vm) {own C : String} {index nn : Nat} (hown : s.vm.findClass own = some m.cls) (w : (Cond.classLink own index C).before a0 Z = true) (wi : (Cond.instantiable C nn).before a0 Z = true) (wz : (Cond.initialized C).before a0 Z = true) (eT : T.heap = h) (hd : decode c.code pc = .ok (.new index, 3)) (hc : cells + 1 ≤ R.cells) (hl : slots + nn ≤ R.slots) {st0 : List Value}
    (g : ∀ T' h' (b : Addr), Stand p l e R s m args below meth c T' locs (cells + 1) (slots + nn) → T'.heap = h' → b = h.size → Ext h h' → Exa Z h' b C → (∀ {O nm d : String} {ty : FieldType}, Laid Z a0 C O nm d → parseFieldDescriptor d = some ty → Fld Z h' b O nm d (defaultValue ty)) → own_Go p e below Fin T' (mkF m (pc + 3) Ls (.ref b :: st0))) : own_Go p e below Fin T (mkF m pc Ls st0) := by
  obtain ⟨T', h', X', e', E', A', D', -, st⟩ := newO X hx hZ hown w wi wz eT (g := mkF m pc Ls st0) rfl hd hc hl
  exact own_by (fun t kk => st _ kk) (g T' h' _ X' e' rfl E' A' D')
theorem own_initO (X : Stand p l e R s m args below meth c T locs cells slots) (hx : p.tables.exec = Jvm.exec) (hZ : Z.Warmed39 s.vm) {own : String} {idx : Nat} (hown : s.vm.findClass own = some m.cls) (w1 : (Cond.methodLink own idx Lib.objectInit).before a0 Z = true) (w2 : (Cond.instanceMethod Lib.objectInit).before a0 Z = true) (w3 : (Cond.code Lib.objectInit ⟨#[0xb1]⟩ 1 none).before a0 Z = true) (eT : T.heap = h) (hml : Ls.size = c.maxLocals) {a : Addr} (hd : decode c.code pc = .ok (.invokespecial idx, 3)) (hf : 1 ≤ R.frames) {W : Nat} (hW : (rest.map fun v => v.category).sum ≤ W) (hl : W + 12 ≤ R.locals)
    (g : ∀ T', Stand p l e R s m args below meth c T' locs cells slots → T'.heap = h → own_Go p e below Fin T' (mkF m (pc + 3) Ls rest)) : own_Go p e below Fin T (mkF m pc Ls (.ref a :: rest)) := by
  obtain ⟨T', X', e', st⟩ := initO X hx hZ hown w1 w2 w3 eT (g := mkF m pc Ls (.ref a :: rest)) rfl hml rfl hd hf (W := W) (by show 2 * 0 + _ ≤ _; omega) hl
  exact own_by (fun t kk => st _ kk) (g T' X' e')
end OwnKit
theorem pn_0 : plainName "com/example/quelex/quelex/XmlCharsIsWhitespacePinLaw" = true := by first | (simp [plainName, overriddenIn]; done) | decide +kernel
theorem d1_0 : decode method_3_code 0 = .ok (.iload_n 1, 1) := by decide +kernel
theorem d1_1 : decode method_3_code 1 = .ok (.iconst 3, 1) := by decide +kernel
theorem d1_2 : decode method_3_code 2 = .ok (.iand, 1) := by decide +kernel
theorem d1_3 : decode method_3_code 3 = .ok (.istore_n 2, 1) := by decide +kernel
theorem d1_4 : decode method_3_code 4 = .ok (.iload_n 2, 1) := by decide +kernel
theorem d1_5 : decode method_3_code 5 = .ok (.ifCond .ne 8, 3) := by decide +kernel
theorem d1_13 : decode method_3_code 13 = .ok (.iload_n 2, 1) := by decide +kernel
theorem d1_14 : decode method_3_code 14 = .ok (.iconst 1, 1) := by decide +kernel
theorem d1_15 : decode method_3_code 15 = .ok (.if_icmp .ne 11, 3) := by decide +kernel
theorem d1_26 : decode method_3_code 26 = .ok (.iload_n 2, 1) := by decide +kernel
theorem d1_27 : decode method_3_code 27 = .ok (.iconst 2, 1) := by decide +kernel
theorem d1_28 : decode method_3_code 28 = .ok (.if_icmp .ne 14, 3) := by decide +kernel
theorem d1_42 : decode method_3_code 42 = .ok (.iload_n 0, 1) := by decide +kernel
theorem d1_43 : decode method_3_code 43 = .ok (.bipush 63, 2) := by decide +kernel
theorem d1_45 : decode method_3_code 45 = .ok (.iand, 1) := by decide +kernel
theorem d1_46 : decode method_3_code 46 = .ok (.iload_n 1, 1) := by decide +kernel
theorem d1_47 : decode method_3_code 47 = .ok (.sipush (-256), 3) := by decide +kernel
theorem d1_50 : decode method_3_code 50 = .ok (.iand, 1) := by decide +kernel
theorem d1_51 : decode method_3_code 51 = .ok (.ior, 1) := by decide +kernel
theorem d1_52 : decode method_3_code 52 = .ok (.istore_n 3, 1) := by decide +kernel
theorem d1_53 : decode method_3_code 53 = .ok (.iload_n 3, 1) := by decide +kernel
theorem d1_54 : decode method_3_code 54 = .ok (.ireturn, 1) := by decide +kernel
theorem d1_31 : decode method_3_code 31 = .ok (.iload_n 0, 1) := by decide +kernel
theorem d1_32 : decode method_3_code 32 = .ok (.bipush 63, 2) := by decide +kernel
theorem d1_34 : decode method_3_code 34 = .ok (.iand, 1) := by decide +kernel
theorem d1_35 : decode method_3_code 35 = .ok (.bipush 32, 2) := by decide +kernel
theorem d1_37 : decode method_3_code 37 = .ok (.isub, 1) := by decide +kernel
theorem d1_38 : decode method_3_code 38 = .ok (.istore_n 3, 1) := by decide +kernel
theorem d1_39 : decode method_3_code 39 = .ok (.goto 14, 3) := by decide +kernel
theorem d1_18 : decode method_3_code 18 = .ok (.iload_n 0, 1) := by decide +kernel
theorem d1_19 : decode method_3_code 19 = .ok (.bipush 63, 2) := by decide +kernel
theorem d1_21 : decode method_3_code 21 = .ok (.iand, 1) := by decide +kernel
theorem d1_22 : decode method_3_code 22 = .ok (.istore_n 3, 1) := by decide +kernel
theorem d1_23 : decode method_3_code 23 = .ok (.goto 30, 3) := by decide +kernel
theorem d1_8 : decode method_3_code 8 = .ok (.iload_n 0, 1) := by decide +kernel
theorem d1_9 : decode method_3_code 9 = .ok (.istore_n 3, 1) := by decide +kernel
theorem d1_10 : decode method_3_code 10 = .ok (.goto 43, 3) := by decide +kernel
theorem pn_2 : plainName "com/example/quelex/quelex/XmlChars" = true := by first | (simp [plainName, overriddenIn]; done) | decide +kernel
theorem d2_0 : decode prog_71_method_3_code 0 = .ok (.iload_n 0, 1) := by decide +kernel
theorem d2_1 : decode prog_71_method_3_code 1 = .ok (.bipush 32, 2) := by decide +kernel
theorem d2_3 : decode prog_71_method_3_code 3 = .ok (.if_icmp .eq 21, 3) := by decide +kernel
theorem d2_24 : decode prog_71_method_3_code 24 = .ok (.iconst 1, 1) := by decide +kernel
theorem d2_25 : decode prog_71_method_3_code 25 = .ok (.goto 4, 3) := by decide +kernel
theorem d2_29 : decode prog_71_method_3_code 29 = .ok (.ireturn, 1) := by decide +kernel
theorem d2_6 : decode prog_71_method_3_code 6 = .ok (.iload_n 0, 1) := by decide +kernel
theorem d2_7 : decode prog_71_method_3_code 7 = .ok (.bipush 9, 2) := by decide +kernel
theorem d2_9 : decode prog_71_method_3_code 9 = .ok (.if_icmp .eq 15, 3) := by decide +kernel
theorem d2_12 : decode prog_71_method_3_code 12 = .ok (.iload_n 0, 1) := by decide +kernel
theorem d2_13 : decode prog_71_method_3_code 13 = .ok (.bipush 13, 2) := by decide +kernel
theorem d2_15 : decode prog_71_method_3_code 15 = .ok (.if_icmp .eq 9, 3) := by decide +kernel
theorem d2_18 : decode prog_71_method_3_code 18 = .ok (.iload_n 0, 1) := by decide +kernel
theorem d2_19 : decode prog_71_method_3_code 19 = .ok (.bipush 10, 2) := by decide +kernel
theorem d2_21 : decode prog_71_method_3_code 21 = .ok (.if_icmp .ne 7, 3) := by decide +kernel
theorem d2_28 : decode prog_71_method_3_code 28 = .ok (.iconst 0, 1) := by decide +kernel
theorem d3_0 : decode method_2_code 0 = .ok (.iload_n 0, 1) := by decide +kernel
theorem d3_1 : decode method_2_code 1 = .ok (.ifCond .lt 25, 3) := by decide +kernel
theorem d3_26 : decode method_2_code 26 = .ok (.iconst 0, 1) := by decide +kernel
theorem d3_27 : decode method_2_code 27 = .ok (.ireturn, 1) := by decide +kernel
theorem d3_4 : decode method_2_code 4 = .ok (.iload_n 0, 1) := by decide +kernel
theorem d3_5 : decode method_2_code 5 = .ok (.bipush 64, 2) := by decide +kernel
theorem d3_7 : decode method_2_code 7 = .ok (.if_icmp .ge 19, 3) := by decide +kernel
theorem d3_10 : decode method_2_code 10 = .ok (.ldc2_w 7, 3) := by decide +kernel
theorem d3_13 : decode method_2_code 13 = .ok (.iload_n 0, 1) := by decide +kernel
theorem d3_14 : decode method_2_code 14 = .ok (.lushr, 1) := by decide +kernel
theorem d3_15 : decode method_2_code 15 = .ok (.lconst 1, 1) := by decide +kernel
theorem d3_16 : decode method_2_code 16 = .ok (.land, 1) := by decide +kernel
theorem d3_17 : decode method_2_code 17 = .ok (.lconst 0, 1) := by decide +kernel
theorem d3_18 : decode method_2_code 18 = .ok (.lcmp, 1) := by decide +kernel
theorem d3_19 : decode method_2_code 19 = .ok (.ifCond .eq 7, 3) := by decide +kernel
theorem d3_22 : decode method_2_code 22 = .ok (.iconst 1, 1) := by decide +kernel
theorem d3_23 : decode method_2_code 23 = .ok (.goto 4, 3) := by decide +kernel
theorem pd_0 : parseMethodDescriptor "(II)I" = some ⟨[.int, .int], some .int⟩ := by decide +kernel
theorem pd_1 : parseMethodDescriptor "(I)Z" = some ⟨[.int], some .boolean⟩ := by decide +kernel
def own_pick (x y : Int32) : Int32 := if y &&& 3 = 0 then x else if y &&& 3 = 1 then x &&& 63 else if y &&& 3 = 2 then (x &&& 63) - 32 else (x &&& 63) ||| (y &&& -256)
def own_ws (c : Int32) : Int32 := if c = 32 ∨ c = 9 ∨ c = 13 ∨ c = 10 then 1 else 0
def own_ref (c : Int32) : Int32 := if ¬ c < 0 ∧ c < 64 ∧ ¬ XT.cmpL (XT.ushrL 4294977024 c &&& 1) 0 = 0 then 1 else 0
theorem own_fin : ∀ k : Fin 64, own_ws (Int32.ofInt k) = own_ref (Int32.ofInt k) := by decide +kernel
theorem own_same (c : Int32) : own_ws c = own_ref c := by
  have k0 : (0 : Int32).toInt = 0 := by decide
  have k64 : (64 : Int32).toInt = 64 := by decide
  by_cases h : ¬ c < 0 ∧ c < 64
  · have h1 := h.1; have h2 := h.2
    rw [Int32.lt_iff_toInt_lt, k0] at h1
    rw [Int32.lt_iff_toInt_lt, k64] at h2
    have q := own_fin ⟨c.toInt.toNat, by omega⟩
    have e : Int32.ofInt ((⟨c.toInt.toNat, by omega⟩ : Fin 64) : Nat) = c := by
      have : (((⟨c.toInt.toNat, by omega⟩ : Fin 64) : Nat) : Int) = c.toInt := by show ((c.toInt.toNat : Nat) : Int) = _; omega
      rw [this, Int32.ofInt_toInt]
    rw [e] at q
    exact q
  · have h' : ¬ (¬ c < 0 ∧ c < 64 ∧ ¬ XT.cmpL (XT.ushrL 4294977024 c &&& 1) 0 = 0) := fun q => h ⟨q.1, q.2.1⟩
    have h'' : ¬ (c = 32 ∨ c = 9 ∨ c = 13 ∨ c = 10) := by
      rintro (rfl | rfl | rfl | rfl) <;> exact h (by decide)
    simp only [own_ws, own_ref, if_neg h', if_neg h'']
def Q1 (x y : Int32) (h0 : Heap) (n0 : Nat) (v : Option Value) (h : Heap) (L : List Loc) : Prop := v = some (.int (own_pick x y)) ∧ Fr n0 L ∧ h = h0
def Q2 (c : Int32) (h0 : Heap) (n0 : Nat) (v : Option Value) (h : Heap) (L : List Loc) : Prop := v = some (.int (own_ws c)) ∧ Fr n0 L ∧ h = h0
def Q3 (c : Int32) (h0 : Heap) (n0 : Nat) (v : Option Value) (h : Heap) (L : List Loc) : Prop := v = some (.int (own_ref c)) ∧ Fr n0 L ∧ h = h0
def Q0 (n0 : Nat) (v : Option Value) (h : Heap) (L : List Loc) : Prop := v = some (.int (1 : Int32)) ∧ Fr n0 L
theorem ef_1 (m : MethodId) (x1 : Int32) (y1 : Int32) : entryFrame m #[(.int x1), (.int y1)] 4 = mkF m 0 #[.val (.int x1), .val (.int y1), .unset, .unset] [] := by first | (simp [entryFrame, mkF, argsToLocals, Value.category]; done) | rfl
set_option maxRecDepth 65536 in
set_option maxHeartbeats 40000000 in
theorem rm1 (l : Launch) (Z : State) (a0 : Array Value) (hw : ∀ d ∈ tables_1, d.before a0 Z = true) (ws : List Jvm.Cond) (x1 : Int32) (y1 : Int32) (h0 : Heap) (n0 : Nat) (Z0 : n0 ≤ h0.size) :
    MetFree l (⟨"com/example/quelex/quelex/XmlCharsIsWhitespacePinLaw", "pick", "(II)I"⟩ : MethodName) (head1 (Jvm.Cond.code (⟨"com/example/quelex/quelex/XmlCharsIsWhitespacePinLaw", "pick", "(II)I"⟩ : MethodName) method_3_code 4 (some .int) :: ws) ({ frames := 0, cells := 0, slots := 0, locals := 0 } : Room)) (fun a U => a = #[(.int x1), (.int y1)] ∧ Z.Warmed39 U.vm ∧ U.heap = h0) (fun _ _ _ _ _ => True) (fun _ U o U' => ∃ v L, o = .returned v ∧ Q1 x1 y1 h0 n0 v U'.heap L ∧ FrameEnd U o U' L ({ frames := 0, cells := 0, slots := 0, locals := 0 } : Room).cells ({ frames := 0, cells := 0, slots := 0, locals := 0 } : Room).slots) := by
  refine MetFree.of_bodySF (plainFor_of_name pn_0) hisR ?_
  intro p e s m args below meth c s₁ Bd hml0 hP hK
  obtain ⟨rfl, hZ, hh⟩ := hP
  have hx := Bd.exec
  have hby := Bd.bytes
  have hml : c.maxLocals = 4 := hml0
  have hown : s.vm.findClass "com/example/quelex/quelex/XmlCharsIsWhitespacePinLaw" = some m.cls := findClass_of_methodNamed Bd.named
  have hnm := (name_of_methodNamed Bd.named Bd.method).1
  have hlk : meth.locks = false := BodyLoose.notSynchronized Bd
  have X0 : Stand p l e ({ frames := 0, cells := 0, slots := 0, locals := 0 } : Room) s m #[(.int x1), (.int y1)] below meth c s₁ [] 0 0 := Stand.of_body Bd
  have e0 : s₁.heap = h0 := by rw [← hh, Bd.state]; rfl
  have N0 := Fr.nil n0
  refine own_start (Q := Q1 x1 y1 h0 n0) (ef_1 m x1 y1) ?_
  show own_Go p e below _ s₁ (mkF m 0 #[.val (.int x1), .val (.int y1), .unset, .unset] [])
  refine own_by (fun t_ k_ => XS.iloadN X0.here hx rfl (hb hby d1_0) rfl k_) ?_
  show own_Go p e below _ s₁ (mkF m 1 #[.val (.int x1), .val (.int y1), .unset, .unset] [(.int y1)])
  refine own_by (fun t_ k_ => XS.iconst X0.here hx rfl (hb hby d1_1) k_) ?_
  show own_Go p e below _ s₁ (mkF m 2 #[.val (.int x1), .val (.int y1), .unset, .unset] [(.int (3 : Int32)), (.int y1)])
  refine own_by (fun t_ k_ => XS.iand X0.here hx rfl (hb hby d1_2) rfl k_) ?_
  show own_Go p e below _ s₁ (mkF m 3 #[.val (.int x1), .val (.int y1), .unset, .unset] [(.int (y1 &&& (3 : Int32)))])
  refine own_by (fun t_ k_ => XS.istoreN X0.here hx rfl (hb hby d1_3) rfl (l' := #[.val (.int x1), .val (.int y1), .val (.int (y1 &&& (3 : Int32))), .unset]) rfl k_) ?_
  show own_Go p e below _ s₁ (mkF m 4 #[.val (.int x1), .val (.int y1), .val (.int (y1 &&& (3 : Int32))), .unset] [])
  refine own_by (fun t_ k_ => XS.iloadN X0.here hx rfl (hb hby d1_4) rfl k_) ?_
  show own_Go p e below _ s₁ (mkF m 5 #[.val (.int x1), .val (.int y1), .val (.int (y1 &&& (3 : Int32))), .unset] [(.int (y1 &&& (3 : Int32)))])
  refine own_if X0 hx 13 (hb hby d1_5) (by decide) (by decide) (fun (hc5 : ¬ (y1 &&& (3 : Int32)) = (0 : Int32)) => ?_) (fun (hc5 : (y1 &&& (3 : Int32)) = (0 : Int32)) => ?_)
  · show own_Go p e below _ s₁ (mkF m 13 #[.val (.int x1), .val (.int y1), .val (.int (y1 &&& (3 : Int32))), .unset] [])
    refine own_by (fun t_ k_ => XS.iloadN X0.here hx rfl (hb hby d1_13) rfl k_) ?_
    show own_Go p e below _ s₁ (mkF m 14 #[.val (.int x1), .val (.int y1), .val (.int (y1 &&& (3 : Int32))), .unset] [(.int (y1 &&& (3 : Int32)))])
    refine own_by (fun t_ k_ => XS.iconst X0.here hx rfl (hb hby d1_14) k_) ?_
    show own_Go p e below _ s₁ (mkF m 15 #[.val (.int x1), .val (.int y1), .val (.int (y1 &&& (3 : Int32))), .unset] [(.int (1 : Int32)), (.int (y1 &&& (3 : Int32)))])
    refine own_icmp X0 hx 26 (hb hby d1_15) (by decide) (by decide) (fun (hc15 : ¬ (y1 &&& (3 : Int32)) = (1 : Int32)) => ?_) (fun (hc15 : (y1 &&& (3 : Int32)) = (1 : Int32)) => ?_)
    · show own_Go p e below _ s₁ (mkF m 26 #[.val (.int x1), .val (.int y1), .val (.int (y1 &&& (3 : Int32))), .unset] [])
      refine own_by (fun t_ k_ => XS.iloadN X0.here hx rfl (hb hby d1_26) rfl k_) ?_
      show own_Go p e below _ s₁ (mkF m 27 #[.val (.int x1), .val (.int y1), .val (.int (y1 &&& (3 : Int32))), .unset] [(.int (y1 &&& (3 : Int32)))])
      refine own_by (fun t_ k_ => XS.iconst X0.here hx rfl (hb hby d1_27) k_) ?_
      show own_Go p e below _ s₁ (mkF m 28 #[.val (.int x1), .val (.int y1), .val (.int (y1 &&& (3 : Int32))), .unset] [(.int (2 : Int32)), (.int (y1 &&& (3 : Int32)))])
      refine own_icmp X0 hx 42 (hb hby d1_28) (by decide) (by decide) (fun (hc28 : ¬ (y1 &&& (3 : Int32)) = (2 : Int32)) => ?_) (fun (hc28 : (y1 &&& (3 : Int32)) = (2 : Int32)) => ?_)
      · show own_Go p e below _ s₁ (mkF m 42 #[.val (.int x1), .val (.int y1), .val (.int (y1 &&& (3 : Int32))), .unset] [])
        refine own_by (fun t_ k_ => XS.iloadN X0.here hx rfl (hb hby d1_42) rfl k_) ?_
        show own_Go p e below _ s₁ (mkF m 43 #[.val (.int x1), .val (.int y1), .val (.int (y1 &&& (3 : Int32))), .unset] [(.int x1)])
        refine own_by (fun t_ k_ => XS.bipush X0.here hx rfl (hb hby d1_43) k_) ?_
        show own_Go p e below _ s₁ (mkF m 45 #[.val (.int x1), .val (.int y1), .val (.int (y1 &&& (3 : Int32))), .unset] [(.int (63 : Int32)), (.int x1)])
        refine own_by (fun t_ k_ => XS.iand X0.here hx rfl (hb hby d1_45) rfl k_) ?_
        show own_Go p e below _ s₁ (mkF m 46 #[.val (.int x1), .val (.int y1), .val (.int (y1 &&& (3 : Int32))), .unset] [(.int (x1 &&& (63 : Int32)))])
        refine own_by (fun t_ k_ => XS.iloadN X0.here hx rfl (hb hby d1_46) rfl k_) ?_
        show own_Go p e below _ s₁ (mkF m 47 #[.val (.int x1), .val (.int y1), .val (.int (y1 &&& (3 : Int32))), .unset] [(.int y1), (.int (x1 &&& (63 : Int32)))])
        refine own_by (fun t_ k_ => XS.sipush X0.here hx rfl (hb hby d1_47) k_) ?_
        show own_Go p e below _ s₁ (mkF m 50 #[.val (.int x1), .val (.int y1), .val (.int (y1 &&& (3 : Int32))), .unset] [(.int (-256 : Int32)), (.int y1), (.int (x1 &&& (63 : Int32)))])
        refine own_by (fun t_ k_ => XS.iand X0.here hx rfl (hb hby d1_50) rfl k_) ?_
        show own_Go p e below _ s₁ (mkF m 51 #[.val (.int x1), .val (.int y1), .val (.int (y1 &&& (3 : Int32))), .unset] [(.int (y1 &&& (-256 : Int32))), (.int (x1 &&& (63 : Int32)))])
        refine own_by (fun t_ k_ => XT.ior X0.here hx rfl (hb hby d1_51) rfl k_) ?_
        show own_Go p e below _ s₁ (mkF m 52 #[.val (.int x1), .val (.int y1), .val (.int (y1 &&& (3 : Int32))), .unset] [(.int ((x1 &&& (63 : Int32)) ||| (y1 &&& (-256 : Int32))))])
        refine own_by (fun t_ k_ => XS.istoreN X0.here hx rfl (hb hby d1_52) rfl (l' := #[.val (.int x1), .val (.int y1), .val (.int (y1 &&& (3 : Int32))), .val (.int ((x1 &&& (63 : Int32)) ||| (y1 &&& (-256 : Int32))))]) rfl k_) ?_
        show own_Go p e below _ s₁ (mkF m 53 #[.val (.int x1), .val (.int y1), .val (.int (y1 &&& (3 : Int32))), .val (.int ((x1 &&& (63 : Int32)) ||| (y1 &&& (-256 : Int32))))] [])
        refine own_by (fun t_ k_ => XS.iloadN X0.here hx rfl (hb hby d1_53) rfl k_) ?_
        show own_Go p e below _ s₁ (mkF m 54 #[.val (.int x1), .val (.int y1), .val (.int (y1 &&& (3 : Int32))), .val (.int ((x1 &&& (63 : Int32)) ||| (y1 &&& (-256 : Int32))))] [(.int ((x1 &&& (63 : Int32)) ||| (y1 &&& (-256 : Int32))))])
        refine own_retI X0 hx hlk Bd.returns (hb hby d1_54) e0 (by decide) (by decide) ?_
        exact ⟨by simp [own_pick, hc5, hc15, hc28], N0, rfl⟩
      · show own_Go p e below _ s₁ (mkF m 31 #[.val (.int x1), .val (.int y1), .val (.int (y1 &&& (3 : Int32))), .unset] [])
        refine own_by (fun t_ k_ => XS.iloadN X0.here hx rfl (hb hby d1_31) rfl k_) ?_
        show own_Go p e below _ s₁ (mkF m 32 #[.val (.int x1), .val (.int y1), .val (.int (y1 &&& (3 : Int32))), .unset] [(.int x1)])
        refine own_by (fun t_ k_ => XS.bipush X0.here hx rfl (hb hby d1_32) k_) ?_
        show own_Go p e below _ s₁ (mkF m 34 #[.val (.int x1), .val (.int y1), .val (.int (y1 &&& (3 : Int32))), .unset] [(.int (63 : Int32)), (.int x1)])
        refine own_by (fun t_ k_ => XS.iand X0.here hx rfl (hb hby d1_34) rfl k_) ?_
        show own_Go p e below _ s₁ (mkF m 35 #[.val (.int x1), .val (.int y1), .val (.int (y1 &&& (3 : Int32))), .unset] [(.int (x1 &&& (63 : Int32)))])
        refine own_by (fun t_ k_ => XS.bipush X0.here hx rfl (hb hby d1_35) k_) ?_
        show own_Go p e below _ s₁ (mkF m 37 #[.val (.int x1), .val (.int y1), .val (.int (y1 &&& (3 : Int32))), .unset] [(.int (32 : Int32)), (.int (x1 &&& (63 : Int32)))])
        refine own_by (fun t_ k_ => XS.isub X0.here hx rfl (hb hby d1_37) rfl k_) ?_
        show own_Go p e below _ s₁ (mkF m 38 #[.val (.int x1), .val (.int y1), .val (.int (y1 &&& (3 : Int32))), .unset] [(.int ((x1 &&& (63 : Int32)) - (32 : Int32)))])
        refine own_by (fun t_ k_ => XS.istoreN X0.here hx rfl (hb hby d1_38) rfl (l' := #[.val (.int x1), .val (.int y1), .val (.int (y1 &&& (3 : Int32))), .val (.int ((x1 &&& (63 : Int32)) - (32 : Int32)))]) rfl k_) ?_
        show own_Go p e below _ s₁ (mkF m 39 #[.val (.int x1), .val (.int y1), .val (.int (y1 &&& (3 : Int32))), .val (.int ((x1 &&& (63 : Int32)) - (32 : Int32)))] [])
        refine own_by (fun t_ k_ => XS.goto X0.here hx rfl (pc0 := 39) (pc' := 53) rfl (hb hby d1_39) (by decide) (by decide) k_) ?_
        show own_Go p e below _ s₁ (mkF m 53 #[.val (.int x1), .val (.int y1), .val (.int (y1 &&& (3 : Int32))), .val (.int ((x1 &&& (63 : Int32)) - (32 : Int32)))] [])
        refine own_by (fun t_ k_ => XS.iloadN X0.here hx rfl (hb hby d1_53) rfl k_) ?_
        show own_Go p e below _ s₁ (mkF m 54 #[.val (.int x1), .val (.int y1), .val (.int (y1 &&& (3 : Int32))), .val (.int ((x1 &&& (63 : Int32)) - (32 : Int32)))] [(.int ((x1 &&& (63 : Int32)) - (32 : Int32)))])
        refine own_retI X0 hx hlk Bd.returns (hb hby d1_54) e0 (by decide) (by decide) ?_
        exact ⟨by simp [own_pick, hc5, hc15, hc28], N0, rfl⟩
    · show own_Go p e below _ s₁ (mkF m 18 #[.val (.int x1), .val (.int y1), .val (.int (y1 &&& (3 : Int32))), .unset] [])
      refine own_by (fun t_ k_ => XS.iloadN X0.here hx rfl (hb hby d1_18) rfl k_) ?_
      show own_Go p e below _ s₁ (mkF m 19 #[.val (.int x1), .val (.int y1), .val (.int (y1 &&& (3 : Int32))), .unset] [(.int x1)])
      refine own_by (fun t_ k_ => XS.bipush X0.here hx rfl (hb hby d1_19) k_) ?_
      show own_Go p e below _ s₁ (mkF m 21 #[.val (.int x1), .val (.int y1), .val (.int (y1 &&& (3 : Int32))), .unset] [(.int (63 : Int32)), (.int x1)])
      refine own_by (fun t_ k_ => XS.iand X0.here hx rfl (hb hby d1_21) rfl k_) ?_
      show own_Go p e below _ s₁ (mkF m 22 #[.val (.int x1), .val (.int y1), .val (.int (y1 &&& (3 : Int32))), .unset] [(.int (x1 &&& (63 : Int32)))])
      refine own_by (fun t_ k_ => XS.istoreN X0.here hx rfl (hb hby d1_22) rfl (l' := #[.val (.int x1), .val (.int y1), .val (.int (y1 &&& (3 : Int32))), .val (.int (x1 &&& (63 : Int32)))]) rfl k_) ?_
      show own_Go p e below _ s₁ (mkF m 23 #[.val (.int x1), .val (.int y1), .val (.int (y1 &&& (3 : Int32))), .val (.int (x1 &&& (63 : Int32)))] [])
      refine own_by (fun t_ k_ => XS.goto X0.here hx rfl (pc0 := 23) (pc' := 53) rfl (hb hby d1_23) (by decide) (by decide) k_) ?_
      show own_Go p e below _ s₁ (mkF m 53 #[.val (.int x1), .val (.int y1), .val (.int (y1 &&& (3 : Int32))), .val (.int (x1 &&& (63 : Int32)))] [])
      refine own_by (fun t_ k_ => XS.iloadN X0.here hx rfl (hb hby d1_53) rfl k_) ?_
      show own_Go p e below _ s₁ (mkF m 54 #[.val (.int x1), .val (.int y1), .val (.int (y1 &&& (3 : Int32))), .val (.int (x1 &&& (63 : Int32)))] [(.int (x1 &&& (63 : Int32)))])
      refine own_retI X0 hx hlk Bd.returns (hb hby d1_54) e0 (by decide) (by decide) ?_
      exact ⟨by simp [own_pick, hc5, hc15], N0, rfl⟩
  · show own_Go p e below _ s₁ (mkF m 8 #[.val (.int x1), .val (.int y1), .val (.int (y1 &&& (3 : Int32))), .unset] [])
    refine own_by (fun t_ k_ => XS.iloadN X0.here hx rfl (hb hby d1_8) rfl k_) ?_
    show own_Go p e below _ s₁ (mkF m 9 #[.val (.int x1), .val (.int y1), .val (.int (y1 &&& (3 : Int32))), .unset] [(.int x1)])
    refine own_by (fun t_ k_ => XS.istoreN X0.here hx rfl (hb hby d1_9) rfl (l' := #[.val (.int x1), .val (.int y1), .val (.int (y1 &&& (3 : Int32))), .val (.int x1)]) rfl k_) ?_
    show own_Go p e below _ s₁ (mkF m 10 #[.val (.int x1), .val (.int y1), .val (.int (y1 &&& (3 : Int32))), .val (.int x1)] [])
    refine own_by (fun t_ k_ => XS.goto X0.here hx rfl (pc0 := 10) (pc' := 53) rfl (hb hby d1_10) (by decide) (by decide) k_) ?_
    show own_Go p e below _ s₁ (mkF m 53 #[.val (.int x1), .val (.int y1), .val (.int (y1 &&& (3 : Int32))), .val (.int x1)] [])
    refine own_by (fun t_ k_ => XS.iloadN X0.here hx rfl (hb hby d1_53) rfl k_) ?_
    show own_Go p e below _ s₁ (mkF m 54 #[.val (.int x1), .val (.int y1), .val (.int (y1 &&& (3 : Int32))), .val (.int x1)] [(.int x1)])
    refine own_retI X0 hx hlk Bd.returns (hb hby d1_54) e0 (by decide) (by decide) ?_
    exact ⟨by simp [own_pick, hc5], N0, rfl⟩
theorem ef_2 (m : MethodId) (c1 : Int32) : entryFrame m #[(.int c1)] 1 = mkF m 0 #[.val (.int c1)] [] := by first | (simp [entryFrame, mkF, argsToLocals, Value.category]; done) | rfl
set_option maxRecDepth 65536 in
set_option maxHeartbeats 40000000 in
theorem rm2 (l : Launch) (Z : State) (a0 : Array Value) (hw : ∀ d ∈ tables_1, d.before a0 Z = true) (ws : List Jvm.Cond) (c1 : Int32) (h0 : Heap) (n0 : Nat) (Z0 : n0 ≤ h0.size) :
    MetFree l (⟨"com/example/quelex/quelex/XmlChars", "isWhitespace", "(I)Z"⟩ : MethodName) (head1 (Jvm.Cond.code (⟨"com/example/quelex/quelex/XmlChars", "isWhitespace", "(I)Z"⟩ : MethodName) prog_71_method_3_code 1 (some .boolean) :: ws) ({ frames := 0, cells := 0, slots := 0, locals := 0 } : Room)) (fun a U => a = #[(.int c1)] ∧ Z.Warmed39 U.vm ∧ U.heap = h0) (fun _ _ _ _ _ => True) (fun _ U o U' => ∃ v L, o = .returned v ∧ Q2 c1 h0 n0 v U'.heap L ∧ FrameEnd U o U' L ({ frames := 0, cells := 0, slots := 0, locals := 0 } : Room).cells ({ frames := 0, cells := 0, slots := 0, locals := 0 } : Room).slots) := by
  refine MetFree.of_bodySF (plainFor_of_name pn_2) hisR ?_
  intro p e s m args below meth c s₁ Bd hml0 hP hK
  obtain ⟨rfl, hZ, hh⟩ := hP
  have hx := Bd.exec
  have hby := Bd.bytes
  have hml : c.maxLocals = 1 := hml0
  have hown : s.vm.findClass "com/example/quelex/quelex/XmlChars" = some m.cls := findClass_of_methodNamed Bd.named
  have hnm := (name_of_methodNamed Bd.named Bd.method).1
  have hlk : meth.locks = false := BodyLoose.notSynchronized Bd
  have X0 : Stand p l e ({ frames := 0, cells := 0, slots := 0, locals := 0 } : Room) s m #[(.int c1)] below meth c s₁ [] 0 0 := Stand.of_body Bd
  have e0 : s₁.heap = h0 := by rw [← hh, Bd.state]; rfl
  have N0 := Fr.nil n0
  refine own_start (Q := Q2 c1 h0 n0) (ef_2 m c1) ?_
  show own_Go p e below _ s₁ (mkF m 0 #[.val (.int c1)] [])
  refine own_by (fun t_ k_ => XS.iloadN X0.here hx rfl (hb hby d2_0) rfl k_) ?_
  show own_Go p e below _ s₁ (mkF m 1 #[.val (.int c1)] [(.int c1)])
  refine own_by (fun t_ k_ => XS.bipush X0.here hx rfl (hb hby d2_1) k_) ?_
  show own_Go p e below _ s₁ (mkF m 3 #[.val (.int c1)] [(.int (32 : Int32)), (.int c1)])
  refine own_icmp X0 hx 24 (hb hby d2_3) (by decide) (by decide) (fun (hc3 : c1 = (32 : Int32)) => ?_) (fun (hc3 : ¬ c1 = (32 : Int32)) => ?_)
  · show own_Go p e below _ s₁ (mkF m 24 #[.val (.int c1)] [])
    refine own_by (fun t_ k_ => XS.iconst X0.here hx rfl (hb hby d2_24) k_) ?_
    show own_Go p e below _ s₁ (mkF m 25 #[.val (.int c1)] [(.int (1 : Int32))])
    refine own_by (fun t_ k_ => XS.goto X0.here hx rfl (pc0 := 25) (pc' := 29) rfl (hb hby d2_25) (by decide) (by decide) k_) ?_
    show own_Go p e below _ s₁ (mkF m 29 #[.val (.int c1)] [(.int (1 : Int32))])
    refine own_retZ X0 hx hlk Bd.returns (by decide) (hb hby d2_29) e0 (by decide) (by decide) ?_
    exact ⟨by simp [own_ws, hc3], N0, rfl⟩
  · show own_Go p e below _ s₁ (mkF m 6 #[.val (.int c1)] [])
    refine own_by (fun t_ k_ => XS.iloadN X0.here hx rfl (hb hby d2_6) rfl k_) ?_
    show own_Go p e below _ s₁ (mkF m 7 #[.val (.int c1)] [(.int c1)])
    refine own_by (fun t_ k_ => XS.bipush X0.here hx rfl (hb hby d2_7) k_) ?_
    show own_Go p e below _ s₁ (mkF m 9 #[.val (.int c1)] [(.int (9 : Int32)), (.int c1)])
    refine own_icmp X0 hx 24 (hb hby d2_9) (by decide) (by decide) (fun (hc9 : c1 = (9 : Int32)) => ?_) (fun (hc9 : ¬ c1 = (9 : Int32)) => ?_)
    · show own_Go p e below _ s₁ (mkF m 24 #[.val (.int c1)] [])
      refine own_by (fun t_ k_ => XS.iconst X0.here hx rfl (hb hby d2_24) k_) ?_
      show own_Go p e below _ s₁ (mkF m 25 #[.val (.int c1)] [(.int (1 : Int32))])
      refine own_by (fun t_ k_ => XS.goto X0.here hx rfl (pc0 := 25) (pc' := 29) rfl (hb hby d2_25) (by decide) (by decide) k_) ?_
      show own_Go p e below _ s₁ (mkF m 29 #[.val (.int c1)] [(.int (1 : Int32))])
      refine own_retZ X0 hx hlk Bd.returns (by decide) (hb hby d2_29) e0 (by decide) (by decide) ?_
      exact ⟨by simp [own_ws, hc3, hc9], N0, rfl⟩
    · show own_Go p e below _ s₁ (mkF m 12 #[.val (.int c1)] [])
      refine own_by (fun t_ k_ => XS.iloadN X0.here hx rfl (hb hby d2_12) rfl k_) ?_
      show own_Go p e below _ s₁ (mkF m 13 #[.val (.int c1)] [(.int c1)])
      refine own_by (fun t_ k_ => XS.bipush X0.here hx rfl (hb hby d2_13) k_) ?_
      show own_Go p e below _ s₁ (mkF m 15 #[.val (.int c1)] [(.int (13 : Int32)), (.int c1)])
      refine own_icmp X0 hx 24 (hb hby d2_15) (by decide) (by decide) (fun (hc15 : c1 = (13 : Int32)) => ?_) (fun (hc15 : ¬ c1 = (13 : Int32)) => ?_)
      · show own_Go p e below _ s₁ (mkF m 24 #[.val (.int c1)] [])
        refine own_by (fun t_ k_ => XS.iconst X0.here hx rfl (hb hby d2_24) k_) ?_
        show own_Go p e below _ s₁ (mkF m 25 #[.val (.int c1)] [(.int (1 : Int32))])
        refine own_by (fun t_ k_ => XS.goto X0.here hx rfl (pc0 := 25) (pc' := 29) rfl (hb hby d2_25) (by decide) (by decide) k_) ?_
        show own_Go p e below _ s₁ (mkF m 29 #[.val (.int c1)] [(.int (1 : Int32))])
        refine own_retZ X0 hx hlk Bd.returns (by decide) (hb hby d2_29) e0 (by decide) (by decide) ?_
        exact ⟨by simp [own_ws, hc3, hc9, hc15], N0, rfl⟩
      · show own_Go p e below _ s₁ (mkF m 18 #[.val (.int c1)] [])
        refine own_by (fun t_ k_ => XS.iloadN X0.here hx rfl (hb hby d2_18) rfl k_) ?_
        show own_Go p e below _ s₁ (mkF m 19 #[.val (.int c1)] [(.int c1)])
        refine own_by (fun t_ k_ => XS.bipush X0.here hx rfl (hb hby d2_19) k_) ?_
        show own_Go p e below _ s₁ (mkF m 21 #[.val (.int c1)] [(.int (10 : Int32)), (.int c1)])
        refine own_icmp X0 hx 28 (hb hby d2_21) (by decide) (by decide) (fun (hc21 : ¬ c1 = (10 : Int32)) => ?_) (fun (hc21 : c1 = (10 : Int32)) => ?_)
        · show own_Go p e below _ s₁ (mkF m 28 #[.val (.int c1)] [])
          refine own_by (fun t_ k_ => XS.iconst X0.here hx rfl (hb hby d2_28) k_) ?_
          show own_Go p e below _ s₁ (mkF m 29 #[.val (.int c1)] [(.int (0 : Int32))])
          refine own_retZ X0 hx hlk Bd.returns (by decide) (hb hby d2_29) e0 (by decide) (by decide) ?_
          exact ⟨by simp [own_ws, hc3, hc9, hc15, hc21], N0, rfl⟩
        · show own_Go p e below _ s₁ (mkF m 24 #[.val (.int c1)] [])
          refine own_by (fun t_ k_ => XS.iconst X0.here hx rfl (hb hby d2_24) k_) ?_
          show own_Go p e below _ s₁ (mkF m 25 #[.val (.int c1)] [(.int (1 : Int32))])
          refine own_by (fun t_ k_ => XS.goto X0.here hx rfl (pc0 := 25) (pc' := 29) rfl (hb hby d2_25) (by decide) (by decide) k_) ?_
          show own_Go p e below _ s₁ (mkF m 29 #[.val (.int c1)] [(.int (1 : Int32))])
          refine own_retZ X0 hx hlk Bd.returns (by decide) (hb hby d2_29) e0 (by decide) (by decide) ?_
          exact ⟨by simp [own_ws, hc3, hc9, hc15, hc21], N0, rfl⟩
theorem ef_3 (m : MethodId) (c1 : Int32) : entryFrame m #[(.int c1)] 1 = mkF m 0 #[.val (.int c1)] [] := by first | (simp [entryFrame, mkF, argsToLocals, Value.category]; done) | rfl
set_option maxRecDepth 65536 in
set_option maxHeartbeats 40000000 in
theorem rm3 (l : Launch) (Z : State) (a0 : Array Value) (hw : ∀ d ∈ tables_1, d.before a0 Z = true) (ws : List Jvm.Cond) (c1 : Int32) (h0 : Heap) (n0 : Nat) (Z0 : n0 ≤ h0.size) :
    MetFree l (⟨"com/example/quelex/quelex/XmlCharsIsWhitespacePinLaw", "reference", "(I)Z"⟩ : MethodName) (head1 (Jvm.Cond.code (⟨"com/example/quelex/quelex/XmlCharsIsWhitespacePinLaw", "reference", "(I)Z"⟩ : MethodName) method_2_code 1 (some .boolean) :: ws) ({ frames := 0, cells := 0, slots := 0, locals := 0 } : Room)) (fun a U => a = #[(.int c1)] ∧ Z.Warmed39 U.vm ∧ U.heap = h0) (fun _ _ _ _ _ => True) (fun _ U o U' => ∃ v L, o = .returned v ∧ Q3 c1 h0 n0 v U'.heap L ∧ FrameEnd U o U' L ({ frames := 0, cells := 0, slots := 0, locals := 0 } : Room).cells ({ frames := 0, cells := 0, slots := 0, locals := 0 } : Room).slots) := by
  refine MetFree.of_bodySF (plainFor_of_name pn_0) hisR ?_
  intro p e s m args below meth c s₁ Bd hml0 hP hK
  obtain ⟨rfl, hZ, hh⟩ := hP
  have hx := Bd.exec
  have hby := Bd.bytes
  have hml : c.maxLocals = 1 := hml0
  have hown : s.vm.findClass "com/example/quelex/quelex/XmlCharsIsWhitespacePinLaw" = some m.cls := findClass_of_methodNamed Bd.named
  have hnm := (name_of_methodNamed Bd.named Bd.method).1
  have hlk : meth.locks = false := BodyLoose.notSynchronized Bd
  have X0 : Stand p l e ({ frames := 0, cells := 0, slots := 0, locals := 0 } : Room) s m #[(.int c1)] below meth c s₁ [] 0 0 := Stand.of_body Bd
  have e0 : s₁.heap = h0 := by rw [← hh, Bd.state]; rfl
  have N0 := Fr.nil n0
  refine own_start (Q := Q3 c1 h0 n0) (ef_3 m c1) ?_
  show own_Go p e below _ s₁ (mkF m 0 #[.val (.int c1)] [])
  refine own_by (fun t_ k_ => XS.iloadN X0.here hx rfl (hb hby d3_0) rfl k_) ?_
  show own_Go p e below _ s₁ (mkF m 1 #[.val (.int c1)] [(.int c1)])
  refine own_if X0 hx 26 (hb hby d3_1) (by decide) (by decide) (fun (hc1 : c1 < (0 : Int32)) => ?_) (fun (hc1 : ¬ c1 < (0 : Int32)) => ?_)
  · show own_Go p e below _ s₁ (mkF m 26 #[.val (.int c1)] [])
    refine own_by (fun t_ k_ => XS.iconst X0.here hx rfl (hb hby d3_26) k_) ?_
    show own_Go p e below _ s₁ (mkF m 27 #[.val (.int c1)] [(.int (0 : Int32))])
    refine own_retZ X0 hx hlk Bd.returns (by decide) (hb hby d3_27) e0 (by decide) (by decide) ?_
    exact ⟨by simp [own_ref, hc1], N0, rfl⟩
  · show own_Go p e below _ s₁ (mkF m 4 #[.val (.int c1)] [])
    refine own_by (fun t_ k_ => XS.iloadN X0.here hx rfl (hb hby d3_4) rfl k_) ?_
    show own_Go p e below _ s₁ (mkF m 5 #[.val (.int c1)] [(.int c1)])
    refine own_by (fun t_ k_ => XS.bipush X0.here hx rfl (hb hby d3_5) k_) ?_
    show own_Go p e below _ s₁ (mkF m 7 #[.val (.int c1)] [(.int (64 : Int32)), (.int c1)])
    refine own_icmp X0 hx 26 (hb hby d3_7) (by decide) (by decide) (fun (hc7 : ¬ c1 < (64 : Int32)) => ?_) (fun (hc7 : c1 < (64 : Int32)) => ?_)
    · show own_Go p e below _ s₁ (mkF m 26 #[.val (.int c1)] [])
      refine own_by (fun t_ k_ => XS.iconst X0.here hx rfl (hb hby d3_26) k_) ?_
      show own_Go p e below _ s₁ (mkF m 27 #[.val (.int c1)] [(.int (0 : Int32))])
      refine own_retZ X0 hx hlk Bd.returns (by decide) (hb hby d3_27) e0 (by decide) (by decide) ?_
      exact ⟨by simp [own_ref, hc1, hc7], N0, rfl⟩
    · show own_Go p e below _ s₁ (mkF m 10 #[.val (.int c1)] [])
      refine own_by (fun t_ k_ => X0.ldc2Long hx hown (mvT hZ (hw _ (List.mem_of_getElem? (i := 11) rfl))) (g := (mkF m 10 #[.val (.int c1)] [])) rfl (hb hby d3_10) _ k_) ?_
      show own_Go p e below _ s₁ (mkF m 13 #[.val (.int c1)] [(.long (4294977024 : Int64))])
      refine own_by (fun t_ k_ => XS.iloadN X0.here hx rfl (hb hby d3_13) rfl k_) ?_
      show own_Go p e below _ s₁ (mkF m 14 #[.val (.int c1)] [(.int c1), (.long (4294977024 : Int64))])
      refine own_by (fun t_ k_ => XT.lushr X0.here hx rfl (hb hby d3_14) rfl k_) ?_
      show own_Go p e below _ s₁ (mkF m 15 #[.val (.int c1)] [(.long (XT.ushrL (4294977024 : Int64) c1))])
      refine own_by (fun t_ k_ => XT.lconst X0.here hx rfl (hb hby d3_15) k_) ?_
      show own_Go p e below _ s₁ (mkF m 16 #[.val (.int c1)] [(.long (1 : Int64)), (.long (XT.ushrL (4294977024 : Int64) c1))])
      refine own_by (fun t_ k_ => XT.land X0.here hx rfl (hb hby d3_16) rfl k_) ?_
      show own_Go p e below _ s₁ (mkF m 17 #[.val (.int c1)] [(.long ((XT.ushrL (4294977024 : Int64) c1) &&& (1 : Int64)))])
      refine own_by (fun t_ k_ => XT.lconst X0.here hx rfl (hb hby d3_17) k_) ?_
      show own_Go p e below _ s₁ (mkF m 18 #[.val (.int c1)] [(.long (0 : Int64)), (.long ((XT.ushrL (4294977024 : Int64) c1) &&& (1 : Int64)))])
      refine own_by (fun t_ k_ => XT.lcmp X0.here hx rfl (hb hby d3_18) rfl k_) ?_
      show own_Go p e below _ s₁ (mkF m 19 #[.val (.int c1)] [(.int (XT.cmpL ((XT.ushrL (4294977024 : Int64) c1) &&& (1 : Int64)) (0 : Int64)))])
      refine own_if X0 hx 26 (hb hby d3_19) (by decide) (by decide) (fun (hc19 : (XT.cmpL ((XT.ushrL (4294977024 : Int64) c1) &&& (1 : Int64)) (0 : Int64)) = (0 : Int32)) => ?_) (fun (hc19 : ¬ (XT.cmpL ((XT.ushrL (4294977024 : Int64) c1) &&& (1 : Int64)) (0 : Int64)) = (0 : Int32)) => ?_)
      · show own_Go p e below _ s₁ (mkF m 26 #[.val (.int c1)] [])
        refine own_by (fun t_ k_ => XS.iconst X0.here hx rfl (hb hby d3_26) k_) ?_
        show own_Go p e below _ s₁ (mkF m 27 #[.val (.int c1)] [(.int (0 : Int32))])
        refine own_retZ X0 hx hlk Bd.returns (by decide) (hb hby d3_27) e0 (by decide) (by decide) ?_
        exact ⟨by simp [own_ref, hc1, hc7, hc19], N0, rfl⟩
      · show own_Go p e below _ s₁ (mkF m 22 #[.val (.int c1)] [])
        refine own_by (fun t_ k_ => XS.iconst X0.here hx rfl (hb hby d3_22) k_) ?_
        show own_Go p e below _ s₁ (mkF m 23 #[.val (.int c1)] [(.int (1 : Int32))])
        refine own_by (fun t_ k_ => XS.goto X0.here hx rfl (pc0 := 23) (pc' := 27) rfl (hb hby d3_23) (by decide) (by decide) k_) ?_
        show own_Go p e below _ s₁ (mkF m 27 #[.val (.int c1)] [(.int (1 : Int32))])
        refine own_retZ X0 hx hlk Bd.returns (by decide) (hb hby d3_27) e0 (by decide) (by decide) ?_
        exact ⟨by simp [own_ref, hc1, hc7, hc19], N0, rfl⟩
theorem ef_0 (m : MethodId) (x1 : Int32) (y1 : Int32) : entryFrame m #[(.int x1), (.int y1)] maxLocals = mkF m 0 #[.val (.int x1), .val (.int y1), .unset] [] := by first | (simp [entryFrame, mkF, argsToLocals, Value.category, maxLocals]; done) | rfl
set_option maxRecDepth 65536 in
set_option maxHeartbeats 40000000 in
theorem rm0 (l : Launch) (Z : State) (a0 : Array Value) (hw : ∀ d ∈ tables_1, d.before a0 Z = true) (ws : List Jvm.Cond) (x1 : Int32) (y1 : Int32) (h0 : Heap) (n0 : Nat) (Z0 : n0 ≤ h0.size) :
    MetFree l x (head1 (Jvm.Cond.code x code maxLocals ret :: ws) room_1) (fun a U => a = #[(.int x1), (.int y1)] ∧ Z.Warmed39 U.vm ∧ U.heap = h0) (fun _ _ _ _ _ => True) (fun _ U o U' => ∃ v L, o = .returned v ∧ Q0 n0 v U'.heap L ∧ FrameEnd U o U' L room_1.cells room_1.slots) := by
  refine MetFree.of_bodySF (plainFor_of_name pn_0) hisR ?_
  intro p e s m args below meth c s₁ Bd hml0 hP hK
  obtain ⟨rfl, hZ, hh⟩ := hP
  have hx := Bd.exec
  have hby := Bd.bytes
  have hml : c.maxLocals = 3 := hml0
  have hown : s.vm.findClass "com/example/quelex/quelex/XmlCharsIsWhitespacePinLaw" = some m.cls := findClass_of_methodNamed Bd.named
  have hnm := (name_of_methodNamed Bd.named Bd.method).1
  have hlk : meth.locks = false := BodyLoose.notSynchronized Bd
  have X0 : Stand p l e room_1 s m #[(.int x1), (.int y1)] below meth c s₁ [] 0 0 := Stand.of_body Bd
  have e0 : s₁.heap = h0 := by rw [← hh, Bd.state]; rfl
  have N0 := Fr.nil n0
  refine own_start (Q := Q0 n0) (ef_0 m x1 y1) ?_
  show own_Go p e below _ s₁ (mkF m 0 #[.val (.int x1), .val (.int y1), .unset] [])
  refine own_by (fun t_ k_ => XS.iloadN X0.here hx rfl (hb hby at_0) rfl k_) ?_
  show own_Go p e below _ s₁ (mkF m 1 #[.val (.int x1), .val (.int y1), .unset] [(.int x1)])
  refine own_by (fun t_ k_ => XS.iloadN X0.here hx rfl (hb hby at_1) rfl k_) ?_
  show own_Go p e below _ s₁ (mkF m 2 #[.val (.int x1), .val (.int y1), .unset] [(.int y1), (.int x1)])
  refine own_callS (W := 0) X0 hx hZ (y := (⟨"com/example/quelex/quelex/XmlCharsIsWhitespacePinLaw", "pick", "(II)I"⟩ : MethodName)) hown (hw _ (List.mem_of_getElem? (i := 0) rfl)) (hw _ (List.mem_of_getElem? (i := 1) rfl)) (hw _ (List.mem_of_getElem? (i := 2) rfl)) (hw _ (List.mem_of_getElem? (i := 3) rfl)) (by decide) (by rw [hml]; rfl) (argsL := [(.int x1), (.int y1)]) pd_0 rfl (rm1 l Z a0 hw [] x1 y1 h0 n0 Z0) (by decide) (by decide) (Nat.le_of_eq rfl) (by decide) (by decide) (rest := []) e0 rfl (hb hby at_2) ?_
  intro v1 T1 L1 X1 hQ1
  obtain ⟨rfl, N1q, e1⟩ := hQ1
  have N1 := Fr.app N0 N1q
  show own_Go p e below _ T1 (mkF m 5 #[.val (.int x1), .val (.int y1), .unset] [(.int (own_pick x1 y1))])
  refine own_by (fun t_ k_ => XS.istoreN X1.here hx rfl (hb hby at_5) rfl (l' := #[.val (.int x1), .val (.int y1), .val (.int (own_pick x1 y1))]) rfl k_) ?_
  show own_Go p e below _ T1 (mkF m 6 #[.val (.int x1), .val (.int y1), .val (.int (own_pick x1 y1))] [])
  generalize h_cp : (own_pick x1 y1) = cp
  show own_Go p e below _ T1 (mkF m 6 #[.val (.int x1), .val (.int y1), .val (.int cp)] [])
  refine own_by (fun t_ k_ => XS.iloadN X1.here hx rfl (hb hby at_6) rfl k_) ?_
  show own_Go p e below _ T1 (mkF m 7 #[.val (.int x1), .val (.int y1), .val (.int cp)] [(.int cp)])
  refine own_callS (W := 0) X1 hx hZ (y := (⟨"com/example/quelex/quelex/XmlChars", "isWhitespace", "(I)Z"⟩ : MethodName)) hown (hw _ (List.mem_of_getElem? (i := 4) rfl)) (hw _ (List.mem_of_getElem? (i := 5) rfl)) (hw _ (List.mem_of_getElem? (i := 6) rfl)) (hw _ (List.mem_of_getElem? (i := 7) rfl)) (by decide) (by rw [hml]; rfl) (argsL := [(.int cp)]) pd_1 rfl (rm2 l Z a0 hw [] cp h0 n0 Z0) (by decide) (by decide) (Nat.le_of_eq rfl) (by decide) (by decide) (rest := []) e1 rfl (hb hby at_7) ?_
  intro v2 T2 L2 X2 hQ2
  obtain ⟨rfl, N2q, e2⟩ := hQ2
  have N2 := Fr.app N1 N2q
  show own_Go p e below _ T2 (mkF m 10 #[.val (.int x1), .val (.int y1), .val (.int cp)] [(.int (own_ws cp))])
  refine own_by (fun t_ k_ => XS.iloadN X2.here hx rfl (hb hby at_10) rfl k_) ?_
  show own_Go p e below _ T2 (mkF m 11 #[.val (.int x1), .val (.int y1), .val (.int cp)] [(.int cp), (.int (own_ws cp))])
  refine own_callS (W := 1) X2 hx hZ (y := (⟨"com/example/quelex/quelex/XmlCharsIsWhitespacePinLaw", "reference", "(I)Z"⟩ : MethodName)) hown (hw _ (List.mem_of_getElem? (i := 8) rfl)) (hw _ (List.mem_of_getElem? (i := 9) rfl)) (hw _ (List.mem_of_getElem? (i := 2) rfl)) (hw _ (List.mem_of_getElem? (i := 10) rfl)) (by decide) (by rw [hml]; rfl) (argsL := [(.int cp)]) pd_1 rfl (rm3 l Z a0 hw [] cp h0 n0 Z0) (by decide) (by decide) (Nat.le_of_eq rfl) (by decide) (by decide) (rest := [(.int (own_ws cp))]) e2 rfl (hb hby at_11) ?_
  intro v3 T3 L3 X3 hQ3
  obtain ⟨rfl, N3q, e3⟩ := hQ3
  have N3 := Fr.app N2 N3q
  show own_Go p e below _ T3 (mkF m 14 #[.val (.int x1), .val (.int y1), .val (.int cp)] [(.int (own_ref cp)), (.int (own_ws cp))])
  refine own_icmp X3 hx 21 (hb hby at_14) (by decide) (by decide) (fun (hc14 : ¬ (own_ws cp) = (own_ref cp)) => ?_) (fun (hc14 : (own_ws cp) = (own_ref cp)) => ?_)
  · exact absurd (own_same cp) hc14
  · show own_Go p e below _ T3 (mkF m 17 #[.val (.int x1), .val (.int y1), .val (.int cp)] [])
    refine own_by (fun t_ k_ => XS.iconst X3.here hx rfl (hb hby at_17) k_) ?_
    show own_Go p e below _ T3 (mkF m 18 #[.val (.int x1), .val (.int y1), .val (.int cp)] [(.int (1 : Int32))])
    refine own_by (fun t_ k_ => XS.goto X3.here hx rfl (pc0 := 18) (pc' := 22) rfl (hb hby at_18) (by decide) (by decide) k_) ?_
    show own_Go p e below _ T3 (mkF m 22 #[.val (.int x1), .val (.int y1), .val (.int cp)] [(.int (1 : Int32))])
    refine own_retZ X3 hx hlk Bd.returns (by decide) (hb hby at_22) e3 (by decide) (by decide) ?_
    exact ⟨rfl, N3⟩
set_option maxRecDepth 65536 in
set_option maxHeartbeats 40000000 in
theorem comes_1 {Post : Tables → Env → Array Value → State → Outcome → State → Prop} (hpost : ∀ tb e args s v u, (limb_1_1.after args s (.returned v) u = true ∧ limb_1_2.after args s (.returned v) u = true ∧ True) → FrameEnd s (.returned v) u (Jvm.fieldLocs frame_1_writes args s ++ Jvm.arrayLocs frame_1_arrays args s ++ Jvm.staticLocs frame_1_statics s) 0 0 → Post tb e args s (.returned v) u) :
    ArmFor flags0 classFile x code maxLocals ret World_1 tables_1 room_1 Calls_1 rest_1 Pre_1 Post := by
  intro l hfl _ _ p e ha hc hk s m args below hf hA hF happ hP
  obtain ⟨hcalls, hrest, hpre⟩ := hP
  obtain ⟨-, -, -, hnamed, -, -, -, hat⟩ := (Spec.applies_iff hf).mp happ
  obtain ⟨hg, hn⟩ := and_e (Cond.before_iff.mp (show (Jvm.Cond.and given_1 narrow_1).before args s = true from hpre))
  obtain ⟨gc, gr0⟩ := and_e hg
  obtain ⟨ga0, gr1⟩ := and_e gr0
  obtain ⟨w0, w1, rfl⟩ : ∃ w0 w1 : Value, args = #[w0, w1] := by
    have hs : args.size = 2 := by simpa [Cond.value, given_1] using gc
    obtain ⟨L⟩ := args
    match L, hs with
    | [w0, w1], _ => exact ⟨w0, w1, rfl⟩
  have hw := fun d (hd : d ∈ tables_1) => atoms_spec (ws := Jvm.Cond.code x code maxLocals ret :: tables_1) hat d (List.mem_cons_of_mem _ hd)
  have hfit : Fit s := fun {y c} hc i hi => by
    obtain ⟨ha, rfl⟩ := Array.getElem?_eq_some_iff.mp hc
    have q := List.all_eq_true.mp ((Array.all_eq_true_iff_forall_mem.mp hF) _ (Array.getElem_mem ha)) i (List.mem_range.mpr hi)
    simpa [Array.getElem?_eq_getElem hi] using q
  obtain ⟨i0, ei0⟩ := is_v ga0
  obtain rfl : w0 = (.int i0) := Option.some.inj ei0
  obtain ⟨i1, ei1⟩ := is_v gr1
  obtain rfl : w1 = (.int i1) := Option.some.inj ei1
  obtain ⟨n, o, h1, h2, h3, _, L, rfl, ⟨rfl, N⟩, hq⟩ := rm0 l s _ hw tables_1 i0 i1 s.heap s.heap.size (Nat.le_refl _) p e ha hc hk s m _ below hf ((Spec.applies_iff_loose hf).mp happ).1 ⟨rfl, State.Warmed39.refl s, rfl⟩ trivial
  refine ⟨n, _, h1, h2, h3, hpost _ _ _ _ _ _ ⟨Cond.after_iff.mpr rfl, Cond.after_iff.mpr (eq_i res_at (Term.int_eval (1)) rfl), trivial⟩ ⟨hq.1, hq.2.1, (hq.2.2.sift fun y hy => Or.inr (N y hy)).mono (by decide) (by decide)⟩⟩
theorem main_1_1 : Claimed_1_1 := comes_1 fun _ _ _ _ _ _ h hF => ⟨h.1, hF⟩
theorem main_1_2 : Claimed_1_2 := comes_1 fun _ _ _ _ _ _ h hF => ⟨h.2.1, hF⟩
end Jvm.Pilot.@@N@@
namespace Jvm.Pilot.@@N@@
open Jvm Jvm.ClassFile Sem Op Lib Jvm.Free Jvm.Stand Jvm.Pilot.@@N@@.Jvm.D
/-! MADE BY PROGRAM (witnessworld.py) out of the Statement's table words and the real class files: 9 classes; the members and pool entries that the words name. The judged class is class 1, her method 3. -/
namespace start1
open Jvm.ClassFile
def u (s : String) : CpInfo := .utf8 (stringToUtf16 s)
/-- a pool by its gaps: so many unusable entries, then the entry; so many at the end -/
def gap : Nat → List CpInfo → List CpInfo
  | 0, r => r
  | n + 1, r => .unusable :: gap n r
def poolList (es : List (Nat × CpInfo)) (last : Nat) : List CpInfo := es.foldr (fun e r => gap e.1 (e.2 :: r)) (gap last [])
def pool (es : List (Nat × CpInfo)) (last : Nat) : Array CpInfo := ⟨poolList es last⟩
def fileOf (pool : Array CpInfo) (this : Nat) (attrs : Array Attribute := #[]) (ms : Array MethodInfo := #[]) (fl : Nat := 33) (sup : Nat := 0) (ifs : Array Nat := #[]) (fds : Array FieldInfo := #[]) : ClassFile where
  minorVersion := 0
  majorVersion := 65
  constantPool := pool
  accessFlags := fl
  thisClass := this
  superClass := sup
  interfaces := ifs
  fields := fds
  methods := ms
  attributes := attrs
def plain (name : String) (sup : Option ClassId) : Class where
  name := name
  kind := .ordinary
  loader := none
  accessFlags := 33
  super := sup
  interfaces := #[]
  cf := none
  fields := #[]
  methods := #[]
  instanceTypes := #[]
  staticTypes := #[]
  resolved := #[]
  callSites := []
  init := .initialized
  statics := none
  mirror := none

def pool0 : Array CpInfo := pool [(5, u "<init>"), (0, u "()V"), (1, .class_ 10), (1, u "java/lang/Object")] 113

def k0m0 : Method := { name := "<init>", desc := "()V", sig := { parameters := [], returnType := none }, accessFlags := 1, code := none }
/-- java/lang/Object -/
def k0 : Class := { plain "java/lang/Object" none with
  accessFlags := 33
  interfaces := #[]
  cf := some (fileOf pool0 8 #[] #[{ accessFlags := 1, nameIndex := 5, descriptorIndex := 6, attributes := #[] }] 33 0 #[] #[])
  fields := #[]
  methods := #[k0m0]
  instanceTypes := #[]
  staticTypes := #[]
  resolved := Array.replicate 124 none
  statics := none }

def pool1 : Array CpInfo := pool [(2, .class_ 4), (1, u "java/lang/Object"), (0, u "<init>"), (0, u "()V"), (0, .long 4294977024), (1, .methodref 10 11), (0, .class_ 12), (0, .nameAndType 13 14), (0, u "com/example/quelex/quelex/XmlCharsIsWhitespacePinLaw"), (0, u "pick"), (0, u "(II)I"), (0, .methodref 16 17), (0, .class_ 18), (0, .nameAndType 19 20), (0, u "com/example/quelex/quelex/XmlChars"), (0, u "isWhitespace"), (0, u "(I)Z"), (0, .methodref 10 22), (0, .nameAndType 23 20), (0, u "reference"), (3, u "law"), (0, u "(II)Z")] 2

def k1m0 : Method := { name := "<init>", desc := "()V", sig := { parameters := [], returnType := none }, accessFlags := 2, code := none }
def k1c1 : Code := { maxStack := 4, maxLocals := 1, code := method_2_code, exceptionTable := #[], attributes := #[] }
def k1m1 : Method := { name := "reference", desc := "(I)Z", sig := { parameters := [.int], returnType := some .boolean }, accessFlags := 10, code := some k1c1 }
def k1c2 : Code := { maxStack := 3, maxLocals := 4, code := method_3_code, exceptionTable := #[], attributes := #[] }
def k1m2 : Method := { name := "pick", desc := "(II)I", sig := { parameters := [.int, .int], returnType := some .int }, accessFlags := 10, code := some k1c2 }
def k1c3 : Code := { maxStack := 2, maxLocals := 3, code := code, exceptionTable := #[], attributes := #[] }
def k1m3 : Method := { name := "law", desc := "(II)Z", sig := { parameters := [.int, .int], returnType := some .boolean }, accessFlags := 9, code := some k1c3 }
/-- com/example/quelex/quelex/XmlCharsIsWhitespacePinLaw -/
def k1 : Class := { plain "com/example/quelex/quelex/XmlCharsIsWhitespacePinLaw" (some 0) with
  accessFlags := 49
  interfaces := #[]
  cf := some (fileOf pool1 10 #[] #[{ accessFlags := 2, nameIndex := 5, descriptorIndex := 6, attributes := #[] }, { accessFlags := 10, nameIndex := 23, descriptorIndex := 20, attributes := #[] }, { accessFlags := 10, nameIndex := 13, descriptorIndex := 14, attributes := #[] }, { accessFlags := 9, nameIndex := 27, descriptorIndex := 28, attributes := #[] }] 49 2 #[] #[])
  fields := #[]
  methods := #[k1m0, k1m1, k1m2, k1m3]
  instanceTypes := #[]
  staticTypes := #[]
  resolved := Array.replicate 31 none
  statics := none }

def pool2 : Array CpInfo := pool [(2, .class_ 4), (1, u "java/lang/Object"), (0, u "<init>"), (0, u "()V"), (2, .class_ 11), (1, u "com/example/quelex/quelex/XmlChars"), (0, u "isWhitespace"), (0, u "(I)Z"), (6, u "ASCII_NAME_FLAGS"), (0, u "[B"), (2, u "NAME_START_RANGES"), (0, u "[I"), (6, u "NAME_ONLY_RANGES"), (4, u "NAME_START"), (0, u "I"), (2, u "NAME")] 11

def k2m0 : Method := { name := "<init>", desc := "()V", sig := { parameters := [], returnType := none }, accessFlags := 2, code := none }
def k2c1 : Code := { maxStack := 2, maxLocals := 1, code := prog_71_method_3_code, exceptionTable := #[], attributes := #[] }
def k2m1 : Method := { name := "isWhitespace", desc := "(I)Z", sig := { parameters := [.int], returnType := some .boolean }, accessFlags := 9, code := some k2c1 }
/-- com/example/quelex/quelex/XmlChars -/
def k2 : Class := { plain "com/example/quelex/quelex/XmlChars" (some 0) with
  accessFlags := 49
  interfaces := #[]
  cf := some (fileOf pool2 9 #[] #[{ accessFlags := 2, nameIndex := 5, descriptorIndex := 6, attributes := #[] }, { accessFlags := 9, nameIndex := 12, descriptorIndex := 13, attributes := #[] }] 49 2 #[] #[{ accessFlags := 26, nameIndex := 24, descriptorIndex := 25, attributes := #[] }, { accessFlags := 26, nameIndex := 32, descriptorIndex := 25, attributes := #[] }, { accessFlags := 26, nameIndex := 37, descriptorIndex := 38, attributes := #[] }, { accessFlags := 26, nameIndex := 41, descriptorIndex := 38, attributes := #[] }, { accessFlags := 26, nameIndex := 20, descriptorIndex := 21, attributes := #[] }])
  fields := #[{ name := "NAME_START_RANGES", type := (.array .int), accessFlags := 26, slot := 0, constantValue := 0 }, { name := "NAME_ONLY_RANGES", type := (.array .int), accessFlags := 26, slot := 1, constantValue := 0 }, { name := "NAME_START", type := .int, accessFlags := 26, slot := 2, constantValue := 0 }, { name := "NAME", type := .int, accessFlags := 26, slot := 3, constantValue := 0 }, { name := "ASCII_NAME_FLAGS", type := (.array .byte), accessFlags := 26, slot := 4, constantValue := 0 }]
  methods := #[k2m0, k2m1]
  instanceTypes := #[]
  staticTypes := #[(.array .int), (.array .int), .int, .int, (.array .byte)]
  resolved := Array.replicate 53 none
  statics := none }

def pool3 : Array CpInfo := pool [(1, u "java/lang/Cloneable"), (0, .class_ 1), (0, u "java/lang/Object"), (0, .class_ 3)] 3

/-- java/lang/Cloneable -/
def k3 : Class := { plain "java/lang/Cloneable" (some 0) with
  accessFlags := 1537
  interfaces := #[]
  cf := some (fileOf pool3 2 #[] #[] 1537 4 #[] #[])
  fields := #[]
  methods := #[]
  instanceTypes := #[]
  staticTypes := #[]
  resolved := Array.replicate 8 none
  statics := none }

def pool4 : Array CpInfo := pool [(1, u "java/io/Serializable"), (0, .class_ 1), (0, u "java/lang/Object"), (0, .class_ 3)] 3

/-- java/io/Serializable -/
def k4 : Class := { plain "java/io/Serializable" (some 0) with
  accessFlags := 1537
  interfaces := #[]
  cf := some (fileOf pool4 2 #[] #[] 1537 4 #[] #[])
  fields := #[]
  methods := #[]
  instanceTypes := #[]
  staticTypes := #[]
  resolved := Array.replicate 8 none
  statics := none }

/-- the primitive byte -/
def k5 : Class := { plain "byte" none with kind := .primitive 'B', accessFlags := 0x411 }
/-- [B -/
def k6 : Class := { plain "[B" (some 0) with kind := .array 5 .byte, interfaces := #[3, 4], accessFlags := 1041 }

/-- the primitive int -/
def k7 : Class := { plain "int" none with kind := .primitive 'I', accessFlags := 0x411 }
/-- [I -/
def k8 : Class := { plain "[I" (some 0) with kind := .array 7 .int, interfaces := #[3, 4], accessFlags := 1041 }

def heap : Heap := #[]
def classes : Array Class := #[k0, k1, k2, k3, k4, k5, k6, k7, k8]
def interned : List (Array UInt16 × Addr) := []
def slotsUsed : Nat := 0
def theMethod : MethodId := ⟨1, 3⟩
def args0 : Array Value := #[.int 32, .int 0]
def aboutOver (below : List Frame) : State where
  vm := { classes := classes, interned := interned.toArray }
  heap := heap
  slotsUsed := slotsUsed
  threads := #[{ frames := .invoking theMethod args0 :: below }]
def below0 : List Frame := [.native { method := ⟨0, 0⟩, args := #[] }]
def about1 : State := aboutOver below0
def p0 : Program := .bare "" "" ""
def e0 : Env := launch0.env 0 0 0
theorem w_frames : about1.frames = Frame.invoking theMethod args0 :: below0 := rfl
set_option maxRecDepth 65536 in
theorem w_args : argsFit about1.vm theMethod args0 = true := by decide +kernel
set_option maxRecDepth 65536 in
theorem w_heap : heapFits about1 = true := by decide +kernel
set_option maxRecDepth 65536 in
theorem w_runnable : about1.curStatus? = some .runnable := by decide +kernel
set_option maxRecDepth 65536 in
theorem w_alone : about1.alone = true := by decide +kernel
set_option maxRecDepth 65536 in
theorem w_named : about1.methodNamed? x = some theMethod := by decide +kernel
set_option maxRecDepth 65536 in
theorem w_hears : about1.hears theMethod below0 = true := by decide +kernel
set_option maxRecDepth 65536 in
theorem w_ripe : about1.ripe theMethod args0 below0 = true := by decide +kernel
theorem w_running : about1.status = .running := rfl
set_option maxRecDepth 65536 in
theorem w_room : about1.hasRoom e0.platform room_1 = true :=
  launch0.hasRoom_least _ room_1 (by decide +kernel) (by decide +kernel) (by decide +kernel) (by decide +kernel) (by decide +kernel) (by decide +kernel)
theorem allAtoms_all (ts : List Jvm.Cond) (a : Array Jvm.Value) (st : Jvm.State) : (allAtoms ts).before a st = ts.all (fun c => c.before a st) := by
  induction ts with
  | nil => rfl
  | cons c t ih =>
    show (Jvm.Cond.and c (allAtoms t)).before a st = _
    rw [Jvm.Cond.before_and, ih, List.all_cons]
def words1 : List Jvm.Cond := Jvm.Cond.code x code maxLocals ret :: tables_1
/-- a 'code' word, met by the world's own term for the bytes: nothing is compared byte by byte -/
theorem code_word {y : MethodName} {bytes : ByteArray} {mx : Nat} {rt : Option FieldType} {a : Array Value} {s : State} {m : MethodId} {meth : Method} {c : Code} (h1 : s.methodNamed? y = some m) (h2 : s.vm.method? m = some meth) (h3 : meth.code = some c) (h4 : c.code = bytes)
    (h5 : (c.maxLocals == mx && c.exceptionTable.isEmpty && decide (c.maxStack ≤ mostOperands) && decide (meth.sig.returnType = rt) && !meth.locks && decide (parseMethodDescriptor y.desc = some meth.sig)) = true) : (Jvm.Cond.code y bytes mx rt).before a s = true := by
  simp only [Bool.and_eq_true, beq_iff_eq, Bool.not_eq_true', decide_eq_true_eq] at h5
  obtain ⟨⟨⟨⟨⟨g1, g2⟩, g3⟩, g4⟩, g5⟩, g6⟩ := h5
  simp [Cond.before, Cond.holds, Cond.value, h1, h2, h3, h4, g1, g2, g3, g4, g5, g6]
def isCode : Jvm.Cond → Bool
  | .code _ _ _ _ => true
  | _ => false
theorem all_split {L : List Jvm.Cond} {P : Jvm.Cond → Bool} (h1 : L.all (fun c => isCode c || P c) = true) (h2 : ∀ c ∈ L.filter isCode, P c = true) : L.all P = true := by
  refine List.all_eq_true.mpr fun c hc => ?_
  have h := List.all_eq_true.mp h1 c hc
  rcases Bool.eq_false_or_eq_true (isCode c) with hi | hi
  · exact h2 c (List.mem_filter.mpr ⟨hc, hi⟩)
  · simpa [hi] using h
set_option maxRecDepth 65536 in
theorem w_c0 : (Jvm.Cond.code x code maxLocals ret).before args0 about1 = true := code_word (m := ⟨1, 3⟩) (meth := k1m3) (c := k1c3) (by decide +kernel) rfl rfl rfl (by decide +kernel)
set_option maxRecDepth 65536 in
theorem w_c1 : (Jvm.Cond.code ({ cls := "com/example/quelex/quelex/XmlCharsIsWhitespacePinLaw", name := "pick", desc := "(II)I" } : Jvm.MethodName) method_3_code (4 : Nat) (Option.some Jvm.ClassFile.FieldType.int)).before args0 about1 = true := code_word (m := ⟨1, 2⟩) (meth := k1m2) (c := k1c2) (by decide +kernel) rfl rfl rfl (by decide +kernel)
set_option maxRecDepth 65536 in
theorem w_c2 : (Jvm.Cond.code ({ cls := "com/example/quelex/quelex/XmlChars", name := "isWhitespace", desc := "(I)Z" } : Jvm.MethodName) prog_71_method_3_code (1 : Nat) (Option.some Jvm.ClassFile.FieldType.boolean)).before args0 about1 = true := code_word (m := ⟨2, 1⟩) (meth := k2m1) (c := k2c1) (by decide +kernel) rfl rfl rfl (by decide +kernel)
set_option maxRecDepth 65536 in
theorem w_c3 : (Jvm.Cond.code ({ cls := "com/example/quelex/quelex/XmlCharsIsWhitespacePinLaw", name := "reference", desc := "(I)Z" } : Jvm.MethodName) method_2_code (1 : Nat) (Option.some Jvm.ClassFile.FieldType.boolean)).before args0 about1 = true := code_word (m := ⟨1, 1⟩) (meth := k1m1) (c := k1c1) (by decide +kernel) rfl rfl rfl (by decide +kernel)
def codes1 : List Jvm.Cond := [Jvm.Cond.code x code maxLocals ret, Jvm.Cond.code ({ cls := "com/example/quelex/quelex/XmlCharsIsWhitespacePinLaw", name := "pick", desc := "(II)I" } : Jvm.MethodName) method_3_code (4 : Nat) (Option.some Jvm.ClassFile.FieldType.int), Jvm.Cond.code ({ cls := "com/example/quelex/quelex/XmlChars", name := "isWhitespace", desc := "(I)Z" } : Jvm.MethodName) prog_71_method_3_code (1 : Nat) (Option.some Jvm.ClassFile.FieldType.boolean), Jvm.Cond.code ({ cls := "com/example/quelex/quelex/XmlCharsIsWhitespacePinLaw", name := "reference", desc := "(I)Z" } : Jvm.MethodName) method_2_code (1 : Nat) (Option.some Jvm.ClassFile.FieldType.boolean)]
set_option maxRecDepth 65536 in
theorem codes_eq : words1.filter isCode = codes1 := rfl
theorem w_codes : ∀ c ∈ words1.filter isCode, c.before args0 about1 = true := by
  rw [codes_eq]
  intro c hc
  simp only [codes1, List.mem_cons, List.not_mem_nil, or_false] at hc
  rcases hc with rfl | rfl | rfl | rfl
  · exact w_c0
  · exact w_c1
  · exact w_c2
  · exact w_c3
set_option maxRecDepth 65536 in
theorem w_t1 : words1.all (fun c => isCode c || c.before args0 about1) = true := by decide +kernel
theorem w_tables : (allAtoms (Jvm.Cond.code x code maxLocals ret :: tables_1)).before args0 about1 = true := by
  rw [allAtoms_all]
  show words1.all (fun c => c.before args0 about1) = true
  refine all_split ?_ w_codes
  rw [w_t1]
set_option maxRecDepth 65536 in
theorem w_case : (Jvm.Cond.and given_1 narrow_1).before args0 about1 = true := by decide +kernel
theorem w_applies : (headSpec (Jvm.Cond.code x code maxLocals ret :: tables_1) room_1).applies x e0.platform about1 = true :=
  (Spec.applies_iff w_frames).mpr ⟨w_running, w_runnable, w_alone, w_named, w_hears, w_ripe, w_room, w_tables⟩
theorem atStart : AtStart classFile x code maxLocals ret World_1 tables_1 room_1 Calls_1 rest_1 Pre_1 launch0 p0 e0 about1 theMethod args0 below0 :=
  ⟨lists_1, trivial, launch0.admits_env _ _ _, launch0.least_env, fairChoices_fair.cas, fairChoices_fair.clock, w_frames, w_args, w_heap, w_applies, trivial, trivial, w_case⟩
end start1
theorem witness_1 : WitnessClaimed_1 := ⟨start1.p0, start1.e0, start1.about1, start1.theMethod, start1.args0, start1.below0, start1.atStart⟩
end Jvm.Pilot.@@N@@
