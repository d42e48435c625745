import JvmDerived
import JvmDerived.Pilot.@@N@@Statement
import JvmDerived.Pilot.@@N@@Code
set_option linter.unusedVariables false
set_option linter.unusedSimpArgs false
@@BLOCK:NumsL.lean.txt@@
/- laws to paste: Road.backV, Road.lenW, Road.chN, Road.codOf (cut by pick.py; bodies as the Statement names them) -/
namespace Jvm.Pilot.@@N@@
namespace StrChars
open Jvm Sem ClassFile Op Lib Jvm.Stand Jvm.Free.XT Jvm.Free.ALB Jvm.Free.JM Jvm.Free
open Jvm.Lib.Cold (StaticIs)
/-- a char array whose places are chars -/
def Ch (a : Addr) (A : Cell) (U : State) : Prop := Arr .char a A U ∧ Typed .char A
theorem Ch.mv {a : Addr} {A : Cell} {U U' : State} (h : Ch a A U) (hal : U.vm.Alike U'.vm) (hh : U'.heap = U.heap) : Ch a A U' := ⟨h.1.mv hal hh, h.2⟩
theorem Ch.keep {a : Addr} {A : Cell} {U U' : State} (h : Ch a A U) (hal : U.vm.Alike U'.vm) (hk : U'.heap[a]? = some A) : Ch a A U' := ⟨h.1.keep hal hk, h.2⟩
/-- what place i of a char[]'s cell holds -/
def cv (A : Cell) (i : Nat) : Int32 := match A.slots[i]? with | some (.int x) => x | _ => 0
theorem Ch.get {a : Addr} {A : Cell} {U : State} (h : Ch a A U) {i : Nat} (hi : i < A.slots.size) : A.slots[i]? = some (.int (cv A i)) := by
  have e := Array.getElem?_eq_getElem hi
  have f := h.2 i _ e
  unfold cv; rw [e]
  generalize A.slots[i] = v at f
  cases v <;> simp [fits] at f ⊢
/-- the byte that i2b leaves of a char -/
def lo8 (x : Int32) : Int32 := x.toInt8.toInt32
theorem fits_lo8 (y : Int32) : fits .byte (.int (lo8 y)) = true := by
  have h1 := y.toInt8.le_toInt
  have h2 := y.toInt8.toInt_lt
  simp only [lo8, fits, Bool.and_eq_true, decide_eq_true_eq, Int32.le_iff_toInt_le, Int8.toInt_toInt32, show (-128 : Int32).toInt = -128 from by decide, show (127 : Int32).toInt = 127 from by decide]
  omega
/-- A' is A but that each place j of lo .. hi - 1 holds f j -/
def Laid (A A' : Cell) (lo hi : Nat) (f : Nat → Value) : Prop := A'.cls = A.cls ∧ A'.vm = A.vm ∧ A'.slots.size = A.slots.size ∧ ∀ i, A'.slots[i]? = if lo ≤ i ∧ i < hi then some (f i) else A.slots[i]?
theorem Laid.zero (A : Cell) (lo : Nat) (f : Nat → Value) : Laid A A lo (lo + 0) f := ⟨rfl, rfl, rfl, fun i => by rw [if_neg (by omega)]⟩
theorem Laid.step {A Ak : Cell} {lo k : Nat} {f : Nat → Value} {v : Value} (h : Laid A Ak lo k f) (hlo : lo ≤ k) (hk : k < Ak.slots.size) (hv : v = f k) : Laid A (Ak.setSlot k v) lo (k + 1) f := by
  refine ⟨h.1, h.2.1, by simpa [Cell.setSlot] using h.2.2.1, fun i => ?_⟩
  by_cases e : k = i
  · subst e; rw [Cell.slots_setSlot_self v hk, if_pos (by omega), hv]
  · rw [Cell.slots_setSlot_ne v e, h.2.2.2 i]
    by_cases q : lo ≤ i ∧ i < k
    · rw [if_pos q, if_pos (by omega)]
    · rw [if_neg q, if_neg (by omega)]
def U16 : String := "java/lang/StringUTF16"
namespace Cmp5
def yN : MethodName := ⟨"java/lang/StringUTF16", "compress", "([CI[BII)I"⟩
abbrev yB : ByteArray := jdk_52_method_21_code
theorem d0 : decode yB 0 = .ok (.iconst 0, 1) := by decide +kernel
theorem d1 : decode yB 1 = .ok (.istore 5, 2) := by decide +kernel
theorem d3 : decode yB 3 = .ok (.iload 5, 2) := by decide +kernel
theorem d5 : decode yB 5 = .ok (.iload 4, 2) := by decide +kernel
theorem d7 : decode yB 7 = .ok (.if_icmp (.ge) 37, 3) := by decide +kernel
theorem d10 : decode yB 10 = .ok (.aload_n 0, 1) := by decide +kernel
theorem d11 : decode yB 11 = .ok (.iload_n 1, 1) := by decide +kernel
theorem d12 : decode yB 12 = .ok (.caload, 1) := by decide +kernel
theorem d13 : decode yB 13 = .ok (.istore 6, 2) := by decide +kernel
theorem d15 : decode yB 15 = .ok (.iload 6, 2) := by decide +kernel
theorem d17 : decode yB 17 = .ok (.sipush 255, 3) := by decide +kernel
theorem d20 : decode yB 20 = .ok (.if_icmp (.le) 6, 3) := by decide +kernel
theorem d26 : decode yB 26 = .ok (.aload_n 2, 1) := by decide +kernel
theorem d27 : decode yB 27 = .ok (.iload_n 3, 1) := by decide +kernel
theorem d28 : decode yB 28 = .ok (.iload 6, 2) := by decide +kernel
theorem d30 : decode yB 30 = .ok (.i2b, 1) := by decide +kernel
theorem d31 : decode yB 31 = .ok (.bastore, 1) := by decide +kernel
theorem d32 : decode yB 32 = .ok (.iinc 1 1, 3) := by decide +kernel
theorem d35 : decode yB 35 = .ok (.iinc 3 1, 3) := by decide +kernel
theorem d38 : decode yB 38 = .ok (.iinc 5 1, 3) := by decide +kernel
theorem d41 : decode yB 41 = .ok (.goto (-38), 3) := by decide +kernel
theorem d44 : decode yB 44 = .ok (.iload 4, 2) := by decide +kernel
theorem d46 : decode yB 46 = .ok (.ireturn, 1) := by decide +kernel
def site : List Cond := []
def tab : Cond := tabOf yN yB 7 (some .int) site
def P (b : Addr) (A : Cell) (d : Addr) (B : Cell) (o q len : Nat) (args : Array Value) (s : State) : Prop := args = #[.ref b, .int (Int32.ofNat o), .ref d, .int (Int32.ofNat q), .int (Int32.ofNat len)] ∧ Ch b A s ∧ Arr .byte d B s ∧ b ≠ d ∧ o + len ≤ A.slots.size ∧ q + len ≤ B.slots.size ∧ ∀ i, i < len → ¬ 255 < cv A (o + i)
def E (b : Addr) (A : Cell) (d : Addr) (B : Cell) (o q len : Nat) (r : Option Value) (s u : State) : Prop := r = some (.int (Int32.ofNat len)) ∧ ∃ B', Put d B' s u ∧ Laid B B' q (q + len) (fun j => Value.int (lo8 (cv A (o + (j - q)))))
/-- no char of the range above 255: len; the places written hold each char's low byte -/
theorem law (l : Launch) (b : Addr) (A : Cell) (d : Addr) (B : Cell) (o q len : Nat) : Law l yN 5 5 0 0 yB 7 (some .int) site (P b A d B o q len) (E b A d B o q len) (copyLocs d q len) 0 0 := by
  refine Law.of_walk (plainFor_of_name (by decide +kernel)) (by decide +kernel) (by decide +kernel) (by decide) (fun _ _ h => by rw [h.1]; rfl) (fun _ U U' hal hh h => ⟨h.1, h.2.1.mv hal hh, h.2.2.1.mv hal hh, h.2.2.2⟩) (fun r U U' V V' h1 hal h2 h => ⟨h.1, h.2.elim fun B' q => ⟨B', q.1.mv h1 h2, q.2⟩⟩) ?_
  intro p e s m args below meth c s₁ X0 hexec hbytes hml hret hlk hnm hown hh0 W hP
  obtain ⟨rfl, hA, hB, hne, l1, l2, hp⟩ := hP
  have c1 : Steps p.tables e below (s₁.setTop (entryFrame m #[.ref b, .int (Int32.ofNat o), .ref d, .int (Int32.ofNat q), .int (Int32.ofNat len)] 7)) (s₁.setTop (mkF m 0 #[.val (.ref b), .val (.int (Int32.ofNat o)), .val (.ref d), .val (.int (Int32.ofNat q)), .val (.int (Int32.ofNat len)), .unset, .unset] [])) := entry rfl
  have hA0 := hA.1.mv X0.warmed.alike hh0
  have hB0 := hB.mv X0.warmed.alike hh0
  have a31 := hA.1.2.2.2
  have c2 : Steps p.tables e below (s₁.setTop (entryFrame m #[.ref b, .int (Int32.ofNat o), .ref d, .int (Int32.ofNat q), .int (Int32.ofNat len)] 7)) (s₁.setTop (mkF m 3 #[.val (.ref b), .val (.int (Int32.ofNat o)), .val (.ref d), .val (.int (Int32.ofNat q)), .val (.int (Int32.ofNat len)), .val (.int 0), .unset] [])) := c1.trans (by
    refine iconstV X0.here hexec rfl 0 (hb hbytes d0) (by decide) ?_
    refine XS.istore X0.here hexec rfl (hb hbytes d1) rfl rfl ?_
    exact Steps.refl _)
  have loop : ∀ (r i : Nat), i + r = len → ∀ (z : Slot), (z = .unset ∨ ∃ w, z = .val w ∧ w.category = 1) → ∀ (Tl : State) (Bk : Cell), Stand p l e { frames := 0, locals := 0, cells := 0, slots := 0 } s m #[.ref b, .int (Int32.ofNat o), .ref d, .int (Int32.ofNat q), .int (Int32.ofNat len)] below meth c Tl ([] ++ copyLocs d q i) 0 0 → Put d Bk s₁ Tl → Laid B Bk q (q + i) (fun j => Value.int (lo8 (cv A (o + (j - q))))) →
      Steps p.tables e below (s₁.setTop (entryFrame m #[.ref b, .int (Int32.ofNat o), .ref d, .int (Int32.ofNat q), .int (Int32.ofNat len)] 7)) (Tl.setTop (mkF m 3 #[.val (.ref b), .val (.int (Int32.ofNat (o + i))), .val (.ref d), .val (.int (Int32.ofNat (q + i))), .val (.int (Int32.ofNat len)), .val (.int (Int32.ofNat i)), z] [])) → ∃ (T' : State) (B' : Cell) (z' : Slot), Stand p l e { frames := 0, locals := 0, cells := 0, slots := 0 } s m #[.ref b, .int (Int32.ofNat o), .ref d, .int (Int32.ofNat q), .int (Int32.ofNat len)] below meth c T' ([] ++ copyLocs d q len) 0 0 ∧ Put d B' s₁ T' ∧ Laid B B' q (q + len) (fun j => Value.int (lo8 (cv A (o + (j - q))))) ∧
      Steps p.tables e below (s₁.setTop (entryFrame m #[.ref b, .int (Int32.ofNat o), .ref d, .int (Int32.ofNat q), .int (Int32.ofNat len)] 7)) (T'.setTop (mkF m 3 #[.val (.ref b), .val (.int (Int32.ofNat (o + len))), .val (.ref d), .val (.int (Int32.ofNat (q + len))), .val (.int (Int32.ofNat len)), .val (.int (Int32.ofNat len)), z'] [])) := by
    intro r
    induction r with
    | zero =>
      intro i hi z hz Tl Bk Xl pl fl cl
      have hil : i = len := by omega
      rw [hil] at Xl fl cl
      exact ⟨Tl, Bk, z, Xl, pl, fl, cl⟩
    | succ r ih =>
      intro i hi z hz Tl Bk Xl pl fl cl
      have all := X0.warmed.alike.symm.trans Xl.warmed.alike
      have hAl := hA0.keep all (pl.other hne hA0.1)
      have hBk := hB0.like all pl.1 fl.1 fl.2.1 fl.2.2.1
      have hlt : q + i < Bk.slots.size := by rw [fl.2.2.1]; omega
      have c3 : Steps p.tables e below (s₁.setTop (entryFrame m #[.ref b, .int (Int32.ofNat o), .ref d, .int (Int32.ofNat q), .int (Int32.ofNat len)] 7)) (Tl.setTop (mkF m 12 #[.val (.ref b), .val (.int (Int32.ofNat (o + i))), .val (.ref d), .val (.int (Int32.ofNat (q + i))), .val (.int (Int32.ofNat len)), .val (.int (Int32.ofNat i)), z] [.int (Int32.ofNat (o + i)), .ref b])) := cl.trans (by
        refine XS.iload Xl.here hexec rfl (hb hbytes d3) rfl ?_
        refine XS.iload Xl.here hexec rfl (hb hbytes d5) rfl ?_
        refine XS.icmpNo Xl.here hexec rfl (hb hbytes d7) rfl (ii_ge_f (lt32 (by omega) (by omega))) ?_
        refine XS.aloadN Xl.here hexec rfl (hb hbytes d10) rfl rfl ?_
        refine XS.iloadN Xl.here hexec rfl (hb hbytes d11) rfl ?_
        exact Steps.refl _)
      have c4 : Steps p.tables e below (s₁.setTop (entryFrame m #[.ref b, .int (Int32.ofNat o), .ref d, .int (Int32.ofNat q), .int (Int32.ofNat len)] 7)) (Tl.setTop (mkF m 13 #[.val (.ref b), .val (.int (Int32.ofNat (o + i))), .val (.ref d), .val (.int (Int32.ofNat (q + i))), .val (.int (Int32.ofNat len)), .val (.int (Int32.ofNat i)), z] [.int (cv A (o + i))])) := c3.trans (by
        refine Xl.aget hexec hAl rfl (hA.get (i := o + i) (by omega)) rfl rfl (hb hbytes d12) ?_
        exact Steps.refl _)
      have c5 : Steps p.tables e below (s₁.setTop (entryFrame m #[.ref b, .int (Int32.ofNat o), .ref d, .int (Int32.ofNat q), .int (Int32.ofNat len)] 7)) (Tl.setTop (mkF m 15 #[.val (.ref b), .val (.int (Int32.ofNat (o + i))), .val (.ref d), .val (.int (Int32.ofNat (q + i))), .val (.int (Int32.ofNat len)), .val (.int (Int32.ofNat i)), .val (.int (cv A (o + i)))] [])) := c4.trans (by
        refine XS.istoreS Xl.here hexec rfl (hb hbytes d13) rfl rfl hz ?_
        exact Steps.refl _)
      have c6 : Steps p.tables e below (s₁.setTop (entryFrame m #[.ref b, .int (Int32.ofNat o), .ref d, .int (Int32.ofNat q), .int (Int32.ofNat len)] 7)) (Tl.setTop (mkF m 31 #[.val (.ref b), .val (.int (Int32.ofNat (o + i))), .val (.ref d), .val (.int (Int32.ofNat (q + i))), .val (.int (Int32.ofNat len)), .val (.int (Int32.ofNat i)), .val (.int (cv A (o + i)))] [.int (lo8 (cv A (o + i))), .int (Int32.ofNat (q + i)), .ref d])) := c5.trans (by
        refine XS.iload Xl.here hexec rfl (hb hbytes d15) rfl ?_
        refine sipushV Xl.here hexec rfl 255 (hb hbytes d17) (by decide) ?_
        refine XS.icmpYes Xl.here hexec rfl (pc0 := 20) rfl (hb hbytes d20) rfl (ii_le_t (hp i (by omega))) (by decide) rfl ?_
        refine XS.aloadN Xl.here hexec rfl (hb hbytes d26) rfl rfl ?_
        refine XS.iloadN Xl.here hexec rfl (hb hbytes d27) rfl ?_
        refine XS.iload Xl.here hexec rfl (hb hbytes d28) rfl ?_
        refine i2b Xl.here hexec rfl (hb hbytes d30) rfl ?_
        exact Steps.refl _)
      obtain ⟨T7, X7, p7, st7⟩ := Xl.aput hexec hBk rfl hlt rfl (fits_lo8 (cv A (o + i))) (g := (mkF m 31 #[.val (.ref b), .val (.int (Int32.ofNat (o + i))), .val (.ref d), .val (.int (Int32.ofNat (q + i))), .val (.int (Int32.ofNat len)), .val (.int (Int32.ofNat i)), .val (.int (cv A (o + i)))] [.int (lo8 (cv A (o + i))), .int (Int32.ofNat (q + i)), .ref d])) rfl (rest := []) rfl (hb hbytes d31)
      have c8 : Steps p.tables e below (s₁.setTop (entryFrame m #[.ref b, .int (Int32.ofNat o), .ref d, .int (Int32.ofNat q), .int (Int32.ofNat len)] 7)) (T7.setTop (mkF m 32 #[.val (.ref b), .val (.int (Int32.ofNat (o + i))), .val (.ref d), .val (.int (Int32.ofNat (q + i))), .val (.int (Int32.ofNat len)), .val (.int (Int32.ofNat i)), .val (.int (cv A (o + i)))] [])) := c6.trans (st7 _ (Steps.refl _))
      have c9 : Steps p.tables e below (s₁.setTop (entryFrame m #[.ref b, .int (Int32.ofNat o), .ref d, .int (Int32.ofNat q), .int (Int32.ofNat len)] 7)) (T7.setTop (mkF m 3 #[.val (.ref b), .val (.int (Int32.ofNat (o + i) + 1)), .val (.ref d), .val (.int (Int32.ofNat (q + i) + 1)), .val (.int (Int32.ofNat len)), .val (.int (Int32.ofNat i + 1)), .val (.int (cv A (o + i)))] [])) := c8.trans (by
        refine iincV X7.here hexec rfl 1 (hb hbytes d32) (by decide) rfl rfl ?_
        refine iincV X7.here hexec rfl 1 (hb hbytes d35) (by decide) rfl rfl ?_
        refine iincV X7.here hexec rfl 1 (hb hbytes d38) (by decide) rfl rfl ?_
        refine XS.goto X7.here hexec rfl (pc0 := 41) rfl (hb hbytes d41) (by decide) rfl ?_
        exact Steps.refl _)
      have c10 : Steps p.tables e below (s₁.setTop (entryFrame m #[.ref b, .int (Int32.ofNat o), .ref d, .int (Int32.ofNat q), .int (Int32.ofNat len)] 7)) (T7.setTop (mkF m 3 #[.val (.ref b), .val (.int (Int32.ofNat (o + (i + 1)))), .val (.ref d), .val (.int (Int32.ofNat (q + (i + 1)))), .val (.int (Int32.ofNat len)), .val (.int (Int32.ofNat (i + 1))), .val (.int (cv A (o + i)))] [])) := by
        have := c9
        rw [succ32, succ32, succ32] at this
        exact this
      exact ih (i + 1) (by omega) _ (Or.inr ⟨_, rfl, rfl⟩) T7 _ (by rw [copyLocs_step, ← List.append_assoc]; exact X7) (pl.trans p7) (fl.step (by omega) hlt (by simp)) c10
  obtain ⟨T9, B9, z9, X9, p9, f9, g9⟩ := loop len 0 (by omega) .unset (Or.inl rfl) s₁ B (by simpa [copyLocs] using X0) ⟨hB0.1, fun _ _ => rfl, rfl⟩ (Laid.zero _ _ _) c2
  have c11 : Steps p.tables e below (s₁.setTop (entryFrame m #[.ref b, .int (Int32.ofNat o), .ref d, .int (Int32.ofNat q), .int (Int32.ofNat len)] 7)) (T9.setTop (mkF m 46 #[.val (.ref b), .val (.int (Int32.ofNat (o + len))), .val (.ref d), .val (.int (Int32.ofNat (q + len))), .val (.int (Int32.ofNat len)), .val (.int (Int32.ofNat len)), z9] [.int (Int32.ofNat len)])) := g9.trans (by
    refine XS.iload X9.here hexec rfl (hb hbytes d3) rfl ?_
    refine XS.iload X9.here hexec rfl (hb hbytes d5) rfl ?_
    refine XS.icmpYes X9.here hexec rfl (pc0 := 7) rfl (hb hbytes d7) rfl (ii_ge_t (nlt32 (by omega) (Nat.le_refl _))) (by decide) rfl ?_
    refine XS.iload X9.here hexec rfl (hb hbytes d44) rfl ?_
    exact Steps.refl _)
  exact ⟨T9, some (.int (Int32.ofNat len)), _, _, _, X9, by simp, rfl, rfl, (fun h => by cases h), ⟨rfl, B9, p9.from hh0, f9⟩, fun fs hl => c11.trans (X9.ireturnOut hexec hret rfl (Or.inl rfl) (hb hbytes d46) hl)⟩
end Cmp5
namespace Cmp3
def yN : MethodName := ⟨"java/lang/StringUTF16", "compress", "([CII)[B"⟩
abbrev yB : ByteArray := jdk_52_method_16_code
theorem d0 : decode yB 0 = .ok (.iload_n 2, 1) := by decide +kernel
theorem d1 : decode yB 1 = .ok (.newarray .byte, 2) := by decide +kernel
theorem d3 : decode yB 3 = .ok (.astore_n 3, 1) := by decide +kernel
theorem d4 : decode yB 4 = .ok (.aload_n 0, 1) := by decide +kernel
theorem d5 : decode yB 5 = .ok (.iload_n 1, 1) := by decide +kernel
theorem d6 : decode yB 6 = .ok (.aload_n 3, 1) := by decide +kernel
theorem d7 : decode yB 7 = .ok (.iconst 0, 1) := by decide +kernel
theorem d8 : decode yB 8 = .ok (.iload_n 2, 1) := by decide +kernel
theorem d9 : decode yB 9 = .ok (.invokestatic 115, 3) := by decide +kernel
theorem d12 : decode yB 12 = .ok (.istore 4, 2) := by decide +kernel
theorem d14 : decode yB 14 = .ok (.iload 4, 2) := by decide +kernel
theorem d16 : decode yB 16 = .ok (.iload_n 2, 1) := by decide +kernel
theorem d17 : decode yB 17 = .ok (.if_icmp (.eq) 40, 3) := by decide +kernel
theorem d57 : decode yB 57 = .ok (.aload_n 3, 1) := by decide +kernel
theorem d58 : decode yB 58 = .ok (.areturn, 1) := by decide +kernel
def site : List Cond := [.arrayClass .byte, Cmp5.tab] ++ staticW U16 115 Cmp5.yN
def tab : Cond := tabOf yN yB 6 (some (.array .byte)) site
def P (b : Addr) (A : Cell) (o len : Nat) (args : Array Value) (s : State) : Prop := args = #[.ref b, .int (Int32.ofNat o), .int (Int32.ofNat len)] ∧ Ch b A s ∧ o + len ≤ A.slots.size ∧ len ≤ 536870912 ∧ ∀ i, i < len → ¬ 255 < cv A (o + i)
def E (b : Addr) (A : Cell) (o len : Nat) (r : Option Value) (s u : State) : Prop := NewArr .byte "[B" len (fun j => .int (lo8 (cv A (o + j)))) r s u ∧ u.heap.size = s.heap.size + 1
/-- no char of the range above 255: a new byte[] of their low bytes -/
theorem law (l : Launch) (b : Addr) (A : Cell) (o len : Nat) : Law l yN 3 3 1 18 yB 6 (some (.array .byte)) site (P b A o len) (E b A o len) [] 1 len := by
  refine Law.of_walk (plainFor_of_name (by decide +kernel)) (by decide +kernel) (by decide +kernel) (by decide) (fun _ _ h => by rw [h.1]; rfl) (fun _ U U' hal hh h => ⟨h.1, h.2.1.mv hal hh, h.2.2⟩) (fun r U U' V V' h1 hal h2 h => ⟨NewArr.mv r U U' V V' h1 hal h2 h.1, by rw [h1, h2]; exact h.2⟩) ?_
  intro p e s m args below meth c s₁ X0 hexec hbytes hml hret hlk hnm hown hh0 W hP
  obtain ⟨rfl, hA, l1, l2, hp⟩ := hP
  have a31 := hA.1.2.2.2
  have c1 : Steps p.tables e below (s₁.setTop (entryFrame m #[.ref b, .int (Int32.ofNat o), .int (Int32.ofNat len)] 6)) (s₁.setTop (mkF m 0 #[.val (.ref b), .val (.int (Int32.ofNat o)), .val (.int (Int32.ofNat len)), .unset, .unset, .unset] [])) := entry rfl
  have c2 : Steps p.tables e below (s₁.setTop (entryFrame m #[.ref b, .int (Int32.ofNat o), .int (Int32.ofNat len)] 6)) (s₁.setTop (mkF m 1 #[.val (.ref b), .val (.int (Int32.ofNat o)), .val (.int (Int32.ofNat len)), .unset, .unset, .unset] [.int (Int32.ofNat len)])) := c1.trans (by
    refine XS.iloadN X0.here hexec rfl (hb hbytes d0) rfl ?_
    exact Steps.refl _)
  obtain ⟨T3, B3, X3, ba3, bs3, bv3, bh3, bf3, st3⟩ := X0.anew hexec (atype := .byte) (wk W (.arrayClass .byte)) rfl (by show len * 1 ≤ _; omega) (by omega) (g := (mkF m 1 #[.val (.ref b), .val (.int (Int32.ofNat o)), .val (.int (Int32.ofNat len)), .unset, .unset, .unset] [.int (Int32.ofNat len)])) rfl (hb hbytes d1) (rest := []) rfl (Nat.le_refl _) (by show 0 + len ≤ len; omega)
  rw [hh0] at ba3 st3
  have kp3 : XT.Kept s T3 := (XT.Kept.of_eq hh0).push bh3
  have hA3 := hA.keep X3.warmed.alike (kp3 _ _ hA.1.1)
  have hne : b ≠ s.heap.size := hA.1.ne
  have c4 : Steps p.tables e below (s₁.setTop (entryFrame m #[.ref b, .int (Int32.ofNat o), .int (Int32.ofNat len)] 6)) (T3.setTop (mkF m 3 #[.val (.ref b), .val (.int (Int32.ofNat o)), .val (.int (Int32.ofNat len)), .unset, .unset, .unset] [.ref s.heap.size])) := c2.trans (st3 _ (Steps.refl _))
  have c5 : Steps p.tables e below (s₁.setTop (entryFrame m #[.ref b, .int (Int32.ofNat o), .int (Int32.ofNat len)] 6)) (T3.setTop (mkF m 9 #[.val (.ref b), .val (.int (Int32.ofNat o)), .val (.int (Int32.ofNat len)), .val (.ref s.heap.size), .unset, .unset] [.int (Int32.ofNat len), .int 0, .ref s.heap.size, .int (Int32.ofNat o), .ref b])) := c4.trans (by
    refine XS.astoreN X3.here hexec rfl (hb hbytes d3) rfl rfl rfl ?_
    refine XS.aloadN X3.here hexec rfl (hb hbytes d4) rfl rfl ?_
    refine XS.iloadN X3.here hexec rfl (hb hbytes d5) rfl ?_
    refine XS.aloadN X3.here hexec rfl (hb hbytes d6) rfl rfl ?_
    refine iconstV X3.here hexec rfl 0 (hb hbytes d7) (by decide) ?_
    refine XS.iloadN X3.here hexec rfl (hb hbytes d8) rfl ?_
    exact Steps.refl _)
  obtain ⟨v6, T6, X6, E6, g6⟩ := X3.callS hexec (Cmp5.law l b A s.heap.size B3 o 0 len) hown (wks W (staticW U16 115 Cmp5.yN)) (wk W Cmp5.tab) (W := 0) (Nat.le_of_ble_eq_true rfl) (Nat.le_of_ble_eq_true rfl) (Nat.le_refl _) (by show 0 + len + 0 ≤ len; omega) (g := (mkF m 9 #[.val (.ref b), .val (.int (Int32.ofNat o)), .val (.int (Int32.ofNat len)), .val (.ref s.heap.size), .unset, .unset] [.int (Int32.ofNat len), .int (Int32.ofNat 0), .ref s.heap.size, .int (Int32.ofNat o), .ref b])) rfl (by rw [hml]; rfl) c5 (argsL := [.ref b, .int (Int32.ofNat o), .ref s.heap.size, .int (Int32.ofNat 0), .int (Int32.ofNat len)]) (rest := []) rfl rfl (by show 2 * 0 + 0 ≤ _; decide) (hb hbytes d9) (⟨rfl, hA3, ba3, hne, l1, by rw [bs3]; simp, hp⟩)
  obtain ⟨rfl, B6, p6, f6⟩ := E6
  have c7 : Steps p.tables e below (s₁.setTop (entryFrame m #[.ref b, .int (Int32.ofNat o), .int (Int32.ofNat len)] 6)) (T6.setTop (mkF m 12 #[.val (.ref b), .val (.int (Int32.ofNat o)), .val (.int (Int32.ofNat len)), .val (.ref s.heap.size), .unset, .unset] [.int (Int32.ofNat len)])) := g6
  have c8 : Steps p.tables e below (s₁.setTop (entryFrame m #[.ref b, .int (Int32.ofNat o), .int (Int32.ofNat len)] 6)) (T6.setTop (mkF m 58 #[.val (.ref b), .val (.int (Int32.ofNat o)), .val (.int (Int32.ofNat len)), .val (.ref s.heap.size), .val (.int (Int32.ofNat len)), .unset] [.ref s.heap.size])) := c7.trans (by
    refine XS.istore X6.here hexec rfl (hb hbytes d12) rfl rfl ?_
    refine XS.iload X6.here hexec rfl (hb hbytes d14) rfl ?_
    refine XS.iloadN X6.here hexec rfl (hb hbytes d16) rfl ?_
    refine XS.icmpYes X6.here hexec rfl (pc0 := 17) rfl (hb hbytes d17) rfl (ii_eq_t rfl) (by decide) rfl ?_
    refine XS.aloadN X6.here hexec rfl (hb hbytes d57) rfl rfl ?_
    exact Steps.refl _)
  have X8 := X6.wide (L' := []) (cells' := 1) (slots' := len) (fun x hx hlt => by
    simp only [List.nil_append, copyLocs, List.mem_map, List.mem_range] at hx
    obtain ⟨i, -, rfl⟩ := hx
    exact absurd hlt (Nat.lt_irrefl _)) (Nat.le_refl _) (by omega)
  exact ⟨T6, some (.ref s.heap.size), _, _, _, X8, rfl, rfl, rfl, (fun h => by cases h), ⟨⟨rfl, B6, ba3.like (X3.warmed.alike.symm.trans X6.warmed.alike) p6.1 f6.1 f6.2.1 f6.2.2.1, f6.2.1.trans bv3, by rw [X6.warmed.alike.findClass, f6.1]; exact bf3, by rw [f6.2.2.1, bs3]; simp, fun j hj => by rw [f6.2.2.2 j, if_pos (by omega)]; rfl, kp3.put p6 (Nat.le_refl _)⟩, by rw [p6.2.2, bh3, hh0]; simp⟩, fun fs hl => c8.trans (X8.areturnOut hexec rfl hret rfl (hb hbytes d58) hl)⟩
end Cmp3
namespace CodL
def yN : MethodName := ⟨"java/lang/StringUTF16", "coderFromArrayLen", "([BI)B"⟩
abbrev yB : ByteArray := jdk_52_method_15_code
theorem d0 : decode yB 0 = .ok (.iload_n 1, 1) := by decide +kernel
theorem d1 : decode yB 1 = .ok (.aload_n 0, 1) := by decide +kernel
theorem d2 : decode yB 2 = .ok (.arraylength, 1) := by decide +kernel
theorem d3 : decode yB 3 = .ok (.isub, 1) := by decide +kernel
theorem d4 : decode yB 4 = .ok (.bipush 31, 2) := by decide +kernel
theorem d6 : decode yB 6 = .ok (.iushr, 1) := by decide +kernel
theorem d7 : decode yB 7 = .ok (.i2b, 1) := by decide +kernel
theorem d8 : decode yB 8 = .ok (.ireturn, 1) := by decide +kernel
def site : List Cond := []
def tab : Cond := tabOf yN yB 2 (some .byte) site
def P (d : Addr) (B : Cell) (args : Array Value) (s : State) : Prop := args = #[.ref d, .int (Int32.ofNat B.slots.size)] ∧ Arr .byte d B s
def E (r : Option Value) (s u : State) : Prop := XT.PureE (some (.int 0)) r s u
/-- an array as long as the number of chars: LATIN1 -/
theorem law (l : Launch) (d : Addr) (B : Cell) : Law l yN 2 2 0 0 yB 2 (some .byte) site (P d B) E [] 0 0 := by
  refine Law.of_walk (plainFor_of_name (by decide +kernel)) (by decide +kernel) (by decide +kernel) (by decide) (fun _ _ h => by rw [h.1]; rfl) (fun _ U U' hal hh h => ⟨h.1, h.2.mv hal hh⟩) (fun r U U' V V' h1 hal h2 h => XT.PureE.mv r U U' V V' h1 hal h2 h) ?_
  intro p e s m args below meth c s₁ X0 hexec hbytes hml hret hlk hnm hown hh0 W hP
  obtain ⟨rfl, hB⟩ := hP
  have hB0 := hB.mv X0.warmed.alike hh0
  have c1 : Steps p.tables e below (s₁.setTop (entryFrame m #[.ref d, .int (Int32.ofNat B.slots.size)] 2)) (s₁.setTop (mkF m 0 #[.val (.ref d), .val (.int (Int32.ofNat B.slots.size))] [])) := entry rfl
  have c2 : Steps p.tables e below (s₁.setTop (entryFrame m #[.ref d, .int (Int32.ofNat B.slots.size)] 2)) (s₁.setTop (mkF m 2 #[.val (.ref d), .val (.int (Int32.ofNat B.slots.size))] [.ref d, .int (Int32.ofNat B.slots.size)])) := c1.trans (by
    refine XS.iloadN X0.here hexec rfl (hb hbytes d0) rfl ?_
    refine XS.aloadN X0.here hexec rfl (hb hbytes d1) rfl rfl ?_
    exact Steps.refl _)
  have c3 : Steps p.tables e below (s₁.setTop (entryFrame m #[.ref d, .int (Int32.ofNat B.slots.size)] 2)) (s₁.setTop (mkF m 8 #[.val (.ref d), .val (.int (Int32.ofNat B.slots.size))] [.int (lo8 (ushr (Int32.ofNat B.slots.size - Int32.ofNat B.slots.size) 31))])) := c2.trans (by
    refine X0.alen hexec hB0 rfl rfl (hb hbytes d2) ?_
    refine XS.isub X0.here hexec rfl (hb hbytes d3) rfl ?_
    refine bipushV X0.here hexec rfl 31 (hb hbytes d4) (by decide) ?_
    refine iushr X0.here hexec rfl (hb hbytes d6) rfl ?_
    refine i2b X0.here hexec rfl (hb hbytes d7) rfl ?_
    exact Steps.refl _)
  have e0 : lo8 (ushr (Int32.ofNat B.slots.size - Int32.ofNat B.slots.size) 31) = 0 := by rw [Int32.sub_self]; decide
  rw [e0] at c3
  exact ⟨s₁, some (.int 0), _, _, _, X0, rfl, rfl, rfl, (fun h => by cases h), ⟨rfl, hh0⟩, fun fs hl => c3.trans (X0.ireturnOut hexec hret rfl (Or.inr (Or.inr (Or.inl rfl))) (hb hbytes d8) hl)⟩
end CodL
/-- the String at a is Latin-1 over a new byte[] (the heap's one new cell): the low bytes of the len chars of A from o on; every cell but a is kept -/
def Got (a : Addr) (D : Cell) (fV fC : Field) (A : Cell) (o len : Nat) (r : Option Value) (s u : State) : Prop := r = none ∧ ∃ D' V : Cell, Blank "java/lang/String" a D' u ∧ Same D D' [fV.slot, fC.slot] ∧ D'.slots[fV.slot]? = some (.ref s.heap.size) ∧ D'.slots[fC.slot]? = some (.int 0) ∧ Arr .byte s.heap.size V u ∧ V.vm = .none ∧ u.vm.findClass "[B" = some V.cls ∧ V.slots.size = len ∧ (∀ j, j < len → V.slots[j]? = some (.int (lo8 (cv A (o + j))))) ∧ (∀ (y : Addr) (c : Cell), y ≠ a → s.heap[y]? = some c → u.heap[y]? = some c) ∧ u.heap.size = s.heap.size + 1
theorem Got.mv {a : Addr} {D A : Cell} {fV fC : Field} {o len : Nat} : ∀ r (U U' V V' : State), U'.heap = U.heap → V.vm.Alike V'.vm → V'.heap = V.heap → Got a D fV fC A o len r U V → Got a D fV fC A o len r U' V' :=
  fun r U U' V V' h1 hal h2 ⟨e0, D', X, a1, a2, a3, a4, a5, a6, a7, a8, a9, a10, a11⟩ => ⟨e0, D', X, a1.mv hal h2, a2, by rw [h1]; exact a3, a4, by rw [h1]; exact a5.mv hal h2, a6, by rw [hal.findClass]; exact a7, a8, a9, by rw [h1, h2]; exact a10, by rw [h1, h2]; exact a11⟩
namespace New4
def yN : MethodName := ⟨"java/lang/String", "<init>", "([CIILjava/lang/Void;)V"⟩
abbrev yB : ByteArray := jdk_42_method_149_code
theorem d0 : decode yB 0 = .ok (.aload_n 0, 1) := by decide +kernel
theorem d1 : decode yB 1 = .ok (.invokespecial 1, 3) := by decide +kernel
theorem d4 : decode yB 4 = .ok (.iload_n 3, 1) := by decide +kernel
theorem d5 : decode yB 5 = .ok (.ifCond (.ne) 22, 3) := by decide +kernel
theorem d27 : decode yB 27 = .ok (.getstatic 38, 3) := by decide +kernel
theorem d30 : decode yB 30 = .ok (.ifCond (.eq) 28, 3) := by decide +kernel
theorem d33 : decode yB 33 = .ok (.aload_n 1, 1) := by decide +kernel
theorem d34 : decode yB 34 = .ok (.iload_n 2, 1) := by decide +kernel
theorem d35 : decode yB 35 = .ok (.iload_n 3, 1) := by decide +kernel
theorem d36 : decode yB 36 = .ok (.invokestatic 177, 3) := by decide +kernel
theorem d39 : decode yB 39 = .ok (.astore 5, 2) := by decide +kernel
theorem d41 : decode yB 41 = .ok (.aload_n 0, 1) := by decide +kernel
theorem d42 : decode yB 42 = .ok (.aload 5, 2) := by decide +kernel
theorem d44 : decode yB 44 = .ok (.iload_n 3, 1) := by decide +kernel
theorem d45 : decode yB 45 = .ok (.invokestatic 47, 3) := by decide +kernel
theorem d48 : decode yB 48 = .ok (.putfield 15, 3) := by decide +kernel
theorem d51 : decode yB 51 = .ok (.aload_n 0, 1) := by decide +kernel
theorem d52 : decode yB 52 = .ok (.aload 5, 2) := by decide +kernel
theorem d54 : decode yB 54 = .ok (.putfield 9, 3) := by decide +kernel
theorem d57 : decode yB 57 = .ok (.return_, 1) := by decide +kernel
def site : List Cond := [.fieldLink "java/lang/String" 38 "java/lang/String" "COMPACT_STRINGS" "Z", Cmp3.tab, CodL.tab, .laysFinal "java/lang/String" "java/lang/String" "value" "[B", .fieldLink "java/lang/String" 9 "java/lang/String" "value" "[B", .laysFinal "java/lang/String" "java/lang/String" "coder" "B", .fieldLink "java/lang/String" 15 "java/lang/String" "coder" "B"] ++ objW "java/lang/String" 1 ++ staticW "java/lang/String" 177 Cmp3.yN ++ staticW "java/lang/String" 47 CodL.yN
def tab : Cond := tabOf yN yB 6 none site
def P (a : Addr) (D : Cell) (fV fC : Field) (b : Addr) (A : Cell) (z : Int32) (o len : Nat) (args : Array Value) (s : State) : Prop := args = #[.ref a, .ref b, .int (Int32.ofNat o), .int (Int32.ofNat len), .null] ∧ Blank "java/lang/String" a D s ∧ Found "java/lang/String" "value" "[B" fV s ∧ Found "java/lang/String" "coder" "B" fC s ∧ Ch b A s ∧ StaticIs s "java/lang/String" "COMPACT_STRINGS" "Z" (.int z) ∧ ¬ z = 0 ∧ 0 < len ∧ o + len ≤ A.slots.size ∧ len ≤ 536870912 ∧ ∀ i, i < len → ¬ 255 < cv A (o + i)
def E (a : Addr) (D : Cell) (fV fC : Field) (A : Cell) (o len : Nat) (r : Option Value) (s u : State) : Prop := Got a D fV fC A o len r s u
/-- len > 0, no char of the range above 255: a Latin-1 String of their low bytes -/
theorem law (l : Launch) (a : Addr) (D : Cell) (fV fC : Field) (b : Addr) (A : Cell) (z : Int32) (o len : Nat) : Law l yN 5 4 2 35 yB 6 none site (P a D fV fC b A z o len) (E a D fV fC A o len) [⟨a, fC.slot⟩, ⟨a, fV.slot⟩] 1 len := by
  refine Law.of_walk (plainFor_of_name (by decide +kernel)) (by decide +kernel) (by decide +kernel) (by decide) (fun _ _ h => by rw [h.1]; rfl) (fun _ U U' hal hh h => ⟨h.1, h.2.1.mv hal hh, h.2.2.1.al hal, h.2.2.2.1.al hal, h.2.2.2.2.1.mv hal hh, h.2.2.2.2.2.1.there hal hh, h.2.2.2.2.2.2⟩) (fun r U U' V V' h1 hal h2 h => Got.mv r U U' V V' h1 hal h2 h) ?_
  intro p e s m args below meth c s₁ X0 hexec hbytes hml hret hlk hnm hown hh0 W hP
  obtain ⟨rfl, hB, f1, f2, hA, s1, hz, l0, l1, l2, hp⟩ := hP
  have a31 := hA.1.2.2.2
  have c1 : Steps p.tables e below (s₁.setTop (entryFrame m #[.ref a, .ref b, .int (Int32.ofNat o), .int (Int32.ofNat len), .null] 6)) (s₁.setTop (mkF m 0 #[.val (.ref a), .val (.ref b), .val (.int (Int32.ofNat o)), .val (.int (Int32.ofNat len)), .val .null, .unset] [])) := entry rfl
  have c2 : Steps p.tables e below (s₁.setTop (entryFrame m #[.ref a, .ref b, .int (Int32.ofNat o), .int (Int32.ofNat len), .null] 6)) (s₁.setTop (mkF m 1 #[.val (.ref a), .val (.ref b), .val (.int (Int32.ofNat o)), .val (.int (Int32.ofNat len)), .val .null, .unset] [.ref a])) := c1.trans (by
    refine XS.aloadN X0.here hexec rfl (hb hbytes d0) rfl rfl ?_
    exact Steps.refl _)
  obtain ⟨T3, X3, q3, st3⟩ := X0.oinit hexec hown (wks W (objW "java/lang/String" 1)) (g := (mkF m 1 #[.val (.ref a), .val (.ref b), .val (.int (Int32.ofNat o)), .val (.int (Int32.ofNat len)), .val .null, .unset] [.ref a])) rfl (by rw [hml]; rfl) (rest := []) rfl (hb hbytes d1) (W := 0) (by show 2 * 0 + 0 ≤ _; decide) (Nat.le_of_ble_eq_true rfl) (Nat.le_of_ble_eq_true rfl)
  have hh3 := q3.trans hh0
  have c4 : Steps p.tables e below (s₁.setTop (entryFrame m #[.ref a, .ref b, .int (Int32.ofNat o), .int (Int32.ofNat len), .null] 6)) (T3.setTop (mkF m 27 #[.val (.ref a), .val (.ref b), .val (.int (Int32.ofNat o)), .val (.int (Int32.ofNat len)), .val .null, .unset] [])) := (c2.trans (st3 _ (Steps.refl _))).trans (by
    refine XS.iloadN X3.here hexec rfl (hb hbytes d4) rfl ?_
    refine XS.ifYes X3.here hexec rfl (pc0 := 5) rfl (hb hbytes d5) rfl (i0_ne_t (nz32 (by omega) l0)) (by decide) rfl ?_
    exact Steps.refl _)
  obtain ⟨T5, X5, q5, st5⟩ := X3.sget hexec hown (wk W (.fieldLink "java/lang/String" 38 "java/lang/String" "COMPACT_STRINGS" "Z")) s1 (fun _ _ h => by rw [hh3]; exact h) (g := (mkF m 27 #[.val (.ref a), .val (.ref b), .val (.int (Int32.ofNat o)), .val (.int (Int32.ofNat len)), .val .null, .unset] [])) rfl (hb hbytes d27)
  have hh5 := q5.trans hh3
  have c6 : Steps p.tables e below (s₁.setTop (entryFrame m #[.ref a, .ref b, .int (Int32.ofNat o), .int (Int32.ofNat len), .null] 6)) (T5.setTop (mkF m 30 #[.val (.ref a), .val (.ref b), .val (.int (Int32.ofNat o)), .val (.int (Int32.ofNat len)), .val .null, .unset] [.int z])) := c4.trans (st5 _ (Steps.refl _))
  have c7 : Steps p.tables e below (s₁.setTop (entryFrame m #[.ref a, .ref b, .int (Int32.ofNat o), .int (Int32.ofNat len), .null] 6)) (T5.setTop (mkF m 36 #[.val (.ref a), .val (.ref b), .val (.int (Int32.ofNat o)), .val (.int (Int32.ofNat len)), .val .null, .unset] [.int (Int32.ofNat len), .int (Int32.ofNat o), .ref b])) := c6.trans (by
    refine XS.ifNo X5.here hexec rfl (hb hbytes d30) rfl (i0_eq_f hz) ?_
    refine XS.aloadN X5.here hexec rfl (hb hbytes d33) rfl rfl ?_
    refine XS.iloadN X5.here hexec rfl (hb hbytes d34) rfl ?_
    refine XS.iloadN X5.here hexec rfl (hb hbytes d35) rfl ?_
    exact Steps.refl _)
  obtain ⟨v8, T8, X8, E8, g8⟩ := X5.callS hexec (Cmp3.law l b A o len) hown (wks W (staticW "java/lang/String" 177 Cmp3.yN)) (wk W Cmp3.tab) (W := 0) (Nat.le_of_ble_eq_true rfl) (Nat.le_of_ble_eq_true rfl) (Nat.le_refl _) (by show 0 + len ≤ len; omega) (g := (mkF m 36 #[.val (.ref a), .val (.ref b), .val (.int (Int32.ofNat o)), .val (.int (Int32.ofNat len)), .val .null, .unset] [.int (Int32.ofNat len), .int (Int32.ofNat o), .ref b])) rfl (by rw [hml]; rfl) c7 (argsL := [.ref b, .int (Int32.ofNat o), .int (Int32.ofNat len)]) (rest := []) rfl rfl (by show 2 * 0 + 0 ≤ _; decide) (hb hbytes d36) (⟨rfl, hA.mv X5.warmed.alike hh5, l1, l2, hp⟩)
  obtain ⟨e8, z8⟩ := E8
  obtain ⟨rfl, N, n1, n2, n3, n4, n5, n6⟩ := NewArr.mv _ T5 s _ _ hh5.symm (Vm.Alike.refl _) rfl e8
  rw [hh5] at z8
  have hB1 := hB.keep X8.warmed.alike (n6 _ _ hB.1)
  have hne : s.heap.size ≠ a := (Nat.ne_of_lt (Array.getElem?_eq_some_iff.mp hB.1).1).symm
  have c9 : Steps p.tables e below (s₁.setTop (entryFrame m #[.ref a, .ref b, .int (Int32.ofNat o), .int (Int32.ofNat len), .null] 6)) (T8.setTop (mkF m 39 #[.val (.ref a), .val (.ref b), .val (.int (Int32.ofNat o)), .val (.int (Int32.ofNat len)), .val .null, .unset] [.ref s.heap.size])) := g8
  have c10 : Steps p.tables e below (s₁.setTop (entryFrame m #[.ref a, .ref b, .int (Int32.ofNat o), .int (Int32.ofNat len), .null] 6)) (T8.setTop (mkF m 45 #[.val (.ref a), .val (.ref b), .val (.int (Int32.ofNat o)), .val (.int (Int32.ofNat len)), .val .null, .val (.ref s.heap.size)] [.int (Int32.ofNat N.slots.size), .ref s.heap.size, .ref a])) := by
    have hc : Steps p.tables e below (s₁.setTop (entryFrame m #[.ref a, .ref b, .int (Int32.ofNat o), .int (Int32.ofNat len), .null] 6)) (T8.setTop (mkF m 45 #[.val (.ref a), .val (.ref b), .val (.int (Int32.ofNat o)), .val (.int (Int32.ofNat len)), .val .null, .val (.ref s.heap.size)] [.int (Int32.ofNat len), .ref s.heap.size, .ref a])) := c9.trans (by
      refine XS.astore X8.here hexec rfl (hb hbytes d39) rfl rfl rfl ?_
      refine XS.aloadN X8.here hexec rfl (hb hbytes d41) rfl rfl ?_
      refine XS.aload X8.here hexec rfl (hb hbytes d42) rfl rfl ?_
      refine XS.iloadN X8.here hexec rfl (hb hbytes d44) rfl ?_
      exact Steps.refl _)
    rw [n4]; exact hc
  obtain ⟨v11, T11, X11, E11, g11⟩ := X8.callS hexec (CodL.law l s.heap.size N) hown (wks W (staticW "java/lang/String" 47 CodL.yN)) (wk W CodL.tab) (W := 1) (Nat.le_of_ble_eq_true rfl) (Nat.le_of_ble_eq_true rfl) (Nat.le_refl _) (by show 0 + len + 0 ≤ len; omega) (g := (mkF m 45 #[.val (.ref a), .val (.ref b), .val (.int (Int32.ofNat o)), .val (.int (Int32.ofNat len)), .val .null, .val (.ref s.heap.size)] [.int (Int32.ofNat N.slots.size), .ref s.heap.size, .ref a])) rfl (by rw [hml]; rfl) c10 (argsL := [.ref s.heap.size, .int (Int32.ofNat N.slots.size)]) (rest := [.ref a]) rfl rfl (by show 2 * 0 + (1 + 0) ≤ _; decide) (hb hbytes d45) (⟨rfl, n1⟩)
  obtain ⟨rfl, q11⟩ := E11
  have hB11 := hB1.mv (X8.warmed.alike.symm.trans X11.warmed.alike) q11
  have c12 : Steps p.tables e below (s₁.setTop (entryFrame m #[.ref a, .ref b, .int (Int32.ofNat o), .int (Int32.ofNat len), .null] 6)) (T11.setTop (mkF m 48 #[.val (.ref a), .val (.ref b), .val (.int (Int32.ofNat o)), .val (.int (Int32.ofNat len)), .val .null, .val (.ref s.heap.size)] [.int 0, .ref a])) := g11
  obtain ⟨T13, X13, p13, bl13, sl13, st13⟩ := X11.finit hexec hown (wk W (.fieldLink "java/lang/String" 15 "java/lang/String" "coder" "B")) (Or.inr ⟨_, (wk W (.laysFinal "java/lang/String" "java/lang/String" "coder" "B"))⟩) (Or.inl ⟨rfl, hnm⟩) f2 (Or.inl rfl) hB11 (t := .byte) (by decide +kernel) rfl (g := (mkF m 48 #[.val (.ref a), .val (.ref b), .val (.int (Int32.ofNat o)), .val (.int (Int32.ofNat len)), .val .null, .val (.ref s.heap.size)] [.int 0, .ref a])) rfl (rest := []) rfl (hb hbytes d48)
  have c14 : Steps p.tables e below (s₁.setTop (entryFrame m #[.ref a, .ref b, .int (Int32.ofNat o), .int (Int32.ofNat len), .null] 6)) (T13.setTop (mkF m 54 #[.val (.ref a), .val (.ref b), .val (.int (Int32.ofNat o)), .val (.int (Int32.ofNat len)), .val .null, .val (.ref s.heap.size)] [.ref s.heap.size, .ref a])) := (c12.trans (st13 _ (Steps.refl _))).trans (by
    refine XS.aloadN X13.here hexec rfl (hb hbytes d51) rfl rfl ?_
    refine XS.aload X13.here hexec rfl (hb hbytes d52) rfl rfl ?_
    exact Steps.refl _)
  obtain ⟨T15, X15, p15, bl15, sl15, st15⟩ := X13.finit hexec hown (wk W (.fieldLink "java/lang/String" 9 "java/lang/String" "value" "[B")) (Or.inr ⟨_, (wk W (.laysFinal "java/lang/String" "java/lang/String" "value" "[B"))⟩) (Or.inl ⟨rfl, hnm⟩) f1 (Or.inl rfl) bl13 (t := (.array .byte)) (by decide +kernel) rfl (g := (mkF m 54 #[.val (.ref a), .val (.ref b), .val (.int (Int32.ofNat o)), .val (.int (Int32.ofNat len)), .val .null, .val (.ref s.heap.size)] [.ref s.heap.size, .ref a])) rfl (rest := []) rfl (hb hbytes d54)
  have c16 : Steps p.tables e below (s₁.setTop (entryFrame m #[.ref a, .ref b, .int (Int32.ofNat o), .int (Int32.ofNat len), .null] 6)) (T15.setTop (mkF m 57 #[.val (.ref a), .val (.ref b), .val (.int (Int32.ofNat o)), .val (.int (Int32.ofNat len)), .val .null, .val (.ref s.heap.size)] [])) := c14.trans (st15 _ (Steps.refl _))
  have ap := apart (Or.inr ⟨_, (wk W (.laysFinal "java/lang/String" "java/lang/String" "value" "[B"))⟩) (Or.inr ⟨_, (wk W (.laysFinal "java/lang/String" "java/lang/String" "coder" "B"))⟩) f1 f2 (t₁ := .array .byte) (t₂ := .byte) (by decide +kernel) (by decide +kernel) (by decide)
  have al := X8.warmed.alike.symm.trans X15.warmed.alike
  have n7 : T11.heap[s.heap.size]? = some N := by rw [q11]; exact n1.1
  exact ⟨T15, none, _, _, _, X15, by simp, rfl, by omega, (fun _ => rfl), ⟨rfl, _, N, bl15, ((Same.refl D _).set _ (by simp)).set _ (by simp), sl15, (Cell.slots_setSlot_ne _ ap).trans sl13, n1.keep al (p15.other hne (p13.other hne n7)), n2, by rw [al.findClass]; exact n3, n4, n5, fun y c h1 h2 => p15.other h1 (p13.other h1 (by rw [q11]; exact n6 y c h2)), by rw [p15.2.2, p13.2.2, q11]; exact z8⟩, fun fs hl => c16.trans (X15.returnOut hexec hret (hb hbytes d57) hl)⟩
end New4
namespace New1
def yN : MethodName := ⟨"java/lang/String", "<init>", "([C)V"⟩
abbrev yB : ByteArray := jdk_42_method_3_code
theorem d0 : decode yB 0 = .ok (.aload_n 0, 1) := by decide +kernel
theorem d1 : decode yB 1 = .ok (.aload_n 1, 1) := by decide +kernel
theorem d2 : decode yB 2 = .ok (.iconst 0, 1) := by decide +kernel
theorem d3 : decode yB 3 = .ok (.aload_n 1, 1) := by decide +kernel
theorem d4 : decode yB 4 = .ok (.arraylength, 1) := by decide +kernel
theorem d5 : decode yB 5 = .ok (.aconst_null, 1) := by decide +kernel
theorem d6 : decode yB 6 = .ok (.invokespecial 27, 3) := by decide +kernel
theorem d9 : decode yB 9 = .ok (.return_, 1) := by decide +kernel
def site : List Cond := [New4.tab] ++ initW "java/lang/String" 27 New4.yN
def tab : Cond := tabOf yN yB 2 none site
def P (a : Addr) (D : Cell) (fV fC : Field) (b : Addr) (A : Cell) (z : Int32) (args : Array Value) (s : State) : Prop := args = #[.ref a, .ref b] ∧ Blank "java/lang/String" a D s ∧ Found "java/lang/String" "value" "[B" fV s ∧ Found "java/lang/String" "coder" "B" fC s ∧ Ch b A s ∧ StaticIs s "java/lang/String" "COMPACT_STRINGS" "Z" (.int z) ∧ ¬ z = 0 ∧ 0 < A.slots.size ∧ A.slots.size ≤ 536870912 ∧ ∀ i, i < A.slots.size → ¬ 255 < cv A i
def E (a : Addr) (D : Cell) (fV fC : Field) (A : Cell) (r : Option Value) (s u : State) : Prop := Got a D fV fC A 0 A.slots.size r s u
/-- new String(chars), not empty, no char above 255: a Latin-1 String of their low bytes -/
theorem law (l : Launch) (a : Addr) (D : Cell) (fV fC : Field) (b : Addr) (A : Cell) (z : Int32) : Law l yN 2 1 3 52 yB 2 none site (P a D fV fC b A z) (E a D fV fC A) [⟨a, fC.slot⟩, ⟨a, fV.slot⟩] 1 A.slots.size := by
  refine Law.of_walk (plainFor_of_name (by decide +kernel)) (by decide +kernel) (by decide +kernel) (by decide) (fun _ _ h => by rw [h.1]; rfl) (fun _ U U' hal hh h => ⟨h.1, h.2.1.mv hal hh, h.2.2.1.al hal, h.2.2.2.1.al hal, h.2.2.2.2.1.mv hal hh, h.2.2.2.2.2.1.there hal hh, h.2.2.2.2.2.2⟩) (fun r U U' V V' h1 hal h2 h => Got.mv r U U' V V' h1 hal h2 h) ?_
  intro p e s m args below meth c s₁ X0 hexec hbytes hml hret hlk hnm hown hh0 W hP
  obtain ⟨rfl, hB, f1, f2, hA, s1, hz, l0, l2, hp⟩ := hP
  have c1 : Steps p.tables e below (s₁.setTop (entryFrame m #[.ref a, .ref b] 2)) (s₁.setTop (mkF m 0 #[.val (.ref a), .val (.ref b)] [])) := entry rfl
  have c2 : Steps p.tables e below (s₁.setTop (entryFrame m #[.ref a, .ref b] 2)) (s₁.setTop (mkF m 6 #[.val (.ref a), .val (.ref b)] [.null, .int (Int32.ofNat A.slots.size), .int 0, .ref b, .ref a])) := c1.trans (by
    refine XS.aloadN X0.here hexec rfl (hb hbytes d0) rfl rfl ?_
    refine XS.aloadN X0.here hexec rfl (hb hbytes d1) rfl rfl ?_
    refine iconstV X0.here hexec rfl 0 (hb hbytes d2) (by decide) ?_
    refine XS.aloadN X0.here hexec rfl (hb hbytes d3) rfl rfl ?_
    refine X0.alen hexec (hA.1.mv X0.warmed.alike hh0) rfl rfl (hb hbytes d4) ?_
    refine XS.aconstNull X0.here hexec rfl (hb hbytes d5) ?_
    exact Steps.refl _)
  obtain ⟨v3, T3, X3, E3, g3⟩ := X0.callN hexec (New4.law l a D fV fC b A z 0 A.slots.size) rfl hown (wks W (initW "java/lang/String" 27 New4.yN)) (W New4.tab (by simp only [site, List.mem_cons, List.mem_append, true_or, or_true])) (W := 0) (Nat.le_of_ble_eq_true rfl) (Nat.le_of_ble_eq_true rfl) (Nat.le_refl _) (by show 0 + A.slots.size ≤ A.slots.size; omega) (g := (mkF m 6 #[.val (.ref a), .val (.ref b)] [.null, .int (Int32.ofNat A.slots.size), .int (Int32.ofNat 0), .ref b, .ref a])) rfl (by rw [hml]; rfl) c2 (argsL := [.ref b, .int (Int32.ofNat 0), .int (Int32.ofNat A.slots.size), .null]) (rest := []) rfl rfl (by show 2 * 0 + 0 ≤ _; decide) (hb hbytes d6) (⟨rfl, hB.mv X0.warmed.alike hh0, f1.al X0.warmed.alike, f2.al X0.warmed.alike, hA.mv X0.warmed.alike hh0, s1.there X0.warmed.alike hh0, hz, l0, by omega, l2, fun i hi => by rw [Nat.zero_add]; exact hp i hi⟩)
  have e0 := Got.mv _ s₁ s _ _ hh0.symm (Vm.Alike.refl _) rfl E3
  obtain rfl := e0.1
  have c4 : Steps p.tables e below (s₁.setTop (entryFrame m #[.ref a, .ref b] 2)) (T3.setTop (mkF m 9 #[.val (.ref a), .val (.ref b)] [])) := g3
  exact ⟨T3, none, _, _, _, X3, by simp, rfl, by omega, (fun _ => rfl), e0, fun fs hl => c4.trans (X3.returnOut hexec hret (hb hbytes d9) hl)⟩
theorem pays {l : Launch} {R : Room} {p : Program} {e : Env} {below : List Frame} {s : State} {sargs : Array Value} {len W : Nat} (a : Addr) (D : Cell) (fV fC : Field) (b : Addr) (A : Cell) (z : Int32) (htab : tab.before sargs s = true) (hfr : 4 ≤ R.frames) (hlo : W + 65 ≤ R.locals) :
    Back l R p e below s sargs yN len W (fun A₁ a₁ => A₁.cells + 1 ≤ R.cells ∧ A₁.slots + A.slots.size ≤ R.slots ∧ P a D fV fC b A z a₁ A₁.U) (fun A₁ _ v₁ B₁ => E a D fV fC A v₁ A₁.U B₁.U ∧ B₁.locs = A₁.locs ++ [⟨a, fC.slot⟩, ⟨a, fV.slot⟩] ∧ B₁.cells = A₁.cells + 1 ∧ B₁.slots = A₁.slots + A.slots.size) :=
  (law l a D fV fC b A z).pays htab hfr (by omega)
end New1
/-- the byte, read back as charAt reads it, is the char -/
theorem lo8_mask {x : Int32} (h0 : ¬ x < 0) (h1 : ¬ 255 < x) : lo8 x &&& 255 = x := by
  have t : ∀ k : Fin 256, lo8 (Int32.ofNat k.val) &&& 255 = Int32.ofNat k.val := by decide +kernel
  rw [Int32.lt_iff_toInt_lt] at h0 h1
  have e0 : (0 : Int32).toInt = 0 := rfl
  have e1 : (255 : Int32).toInt = 255 := rfl
  obtain ⟨k, hk⟩ : ∃ k : Nat, x.toInt = k := ⟨x.toInt.toNat, by omega⟩
  have hx : x = Int32.ofNat k := Int32.toInt_inj.mp (by rw [hk, Int32.toInt_ofNat_small (by omega)])
  rw [hx]
  exact t ⟨k, by omega⟩
end StrChars
namespace StrChars.Road
open Jvm Sem ClassFile Op Lib Jvm.Stand Jvm.Free Jvm.Free.XT
open Jvm.Lib.Cold (StaticIs)
abbrev ST : String := "java/lang/String"
/-- every table word that New1's law asks, flat -/
abbrev words : List Jvm.Cond := [.code New1.yN New1.yB 2 none, .initialized ST, .methodLink ST 27 New4.yN, .instanceMethod New4.yN,
  .code New4.yN New4.yB 6 none, .fieldLink ST 38 ST "COMPACT_STRINGS" "Z", .laysFinal ST ST "value" "[B", .fieldLink ST 9 ST "value" "[B", .laysFinal ST ST "coder" "B", .fieldLink ST 15 ST "coder" "B",
  .methodLink ST 1 Lib.objectInit, .instanceMethod Lib.objectInit, .code Lib.objectInit ⟨#[0xb1]⟩ 1 none, .methodLink ST 177 Cmp3.yN, .static Cmp3.yN, .methodLink ST 47 CodL.yN, .static CodL.yN,
  .code Cmp3.yN Cmp3.yB 6 (some (.array .byte)), .initialized U16, .arrayClass .byte, .methodLink U16 115 Cmp5.yN, .static Cmp5.yN, .code Cmp5.yN Cmp5.yB 7 (some .int), .code CodL.yN CodL.yB 2 (some .byte)]
theorem tab_of {a : Array Value} {s : State} (h : ∀ w ∈ words, w.before a s = true) : New1.tab.before a s = true := by
  have h5 : Cmp5.tab.before a s = true := unparts (wk h (.code Cmp5.yN Cmp5.yB 7 (some .int))) (wks h (.initialized Cmp5.yN.cls :: Cmp5.site))
  have hc : CodL.tab.before a s = true := unparts (wk h (.code CodL.yN CodL.yB 2 (some .byte))) (wks h (.initialized CodL.yN.cls :: CodL.site))
  have q5 : ∀ w ∈ Cmp5.tab :: words, w.before a s = true := fun w hw => (List.mem_cons.mp hw).elim (fun e => e ▸ h5) (h w)
  have h3 : Cmp3.tab.before a s = true := unparts (wk q5 (.code Cmp3.yN Cmp3.yB 6 (some (.array .byte)))) (wks q5 (.initialized Cmp3.yN.cls :: Cmp3.site))
  have q3 : ∀ w ∈ Cmp3.tab :: CodL.tab :: words, w.before a s = true := fun w hw => (List.mem_cons.mp hw).elim (fun e => e ▸ h3) fun hw => (List.mem_cons.mp hw).elim (fun e => e ▸ hc) (h w)
  have h4 : New4.tab.before a s = true := unparts (wk q3 (.code New4.yN New4.yB 6 none)) (wks q3 (.initialized New4.yN.cls :: New4.site))
  have q4 : ∀ w ∈ New4.tab :: words, w.before a s = true := fun w hw => (List.mem_cons.mp hw).elim (fun e => e ▸ h4) (h w)
  exact unparts (wk q4 (.code New1.yN New1.yB 2 none)) (wks q4 (.initialized New1.yN.cls :: New1.site))
/-- the words ride from the start Z to the walk's own state -/
theorem moved {Z s : State} {a0 args : Array Value} (hZ : Z.Warmed39 s.vm) (hw : ∀ d ∈ words, d.before a0 Z = true) : ∀ d ∈ words, d.before args s = true := fun d hd => by
  have q := hw d hd
  have t : ∀ d ∈ words, d = .arrayClass .byte ∨ (d.onTables && d.keepsFace) = true := by decide +kernel
  rcases t d hd with rfl | t
  · exact RoadKit.mvA hZ q
  · exact RoadKit.mv hZ q t
/-- WHAT COMES BACK, over the tables of the start Z: h the heap at the call, h' behind it -/
def Q (Z : State) (x : Addr) (A : Cell) (h : Heap) (v : Option Value) (h' : Heap) (L : List Loc) : Prop := v = none ∧ (∀ y ∈ L, y.base = x) ∧ RoadKit.Keep h h' [x] ∧ h'.size = h.size + 1 ∧ RoadKit.Exa Z h' x ST ∧ RoadKit.Fld Z h' x ST "value" "[B" (.ref h.size) ∧ RoadKit.Fld Z h' x ST "coder" "B" (.int 0) ∧
  (∃ V : Cell, RoadKit.Arr Z h' h.size V .byte ∧ V.vm = .none ∧ Z.vm.findClass "[B" = some V.cls ∧ V.slots.size = A.slots.size ∧ ∀ j, j < A.slots.size → V.slots[j]? = some (.int (lo8 (cv A j)))) ∧
  ∀ (O n d : String) (w : Value), RoadKit.Fld Z h x O n d w → RoadKit.slotOf Z O n d ≠ RoadKit.slotOf Z ST "value" "[B" → RoadKit.slotOf Z O n d ≠ RoadKit.slotOf Z ST "coder" "B" → RoadKit.Fld Z h' x O n d w
/-- **new String(chars) AT A CALL, IN THE ROAD'S FORM**: for specialBack behind newO: x the fresh String, b the char[] with the cell A -/
theorem back {p : Program} {l : Launch} {e : Env} {R : Room} {s : State} {args : Array Value} {below : List Frame} {len W : Nat} {Z : State} {a0 : Array Value} {h : Heap} (hZ : Z.Warmed39 s.vm) (hw : ∀ d ∈ words, d.before a0 Z = true) {kI : Nat} (wi : (Jvm.Cond.instantiable ST kI).before a0 Z = true)
    {x b : Addr} {A : Cell} {z : Int32} {v0 c0 : Value} (E : RoadKit.Exa Z h x ST) (V : RoadKit.Fld Z h x ST "value" "[B" v0) (C : RoadKit.Fld Z h x ST "coder" "B" c0) (K : RoadKit.Arr Z h b A .char) (hty : Typed .char A) (S : RoadKit.Sta Z h ST "COMPACT_STRINGS" "Z" (.int z)) (hz : ¬ z = 0)
    (l0 : 0 < A.slots.size) (l2 : A.slots.size ≤ 536870912) (hp : ∀ i, i < A.slots.size → ¬ 255 < cv A i) (hfr : 4 ≤ R.frames) (hlo : W + 65 ≤ R.locals) :
    Back l R p e below s args New1.yN len W (fun P a => a = #[.ref x, .ref b] ∧ P.U.heap = h ∧ P.cells + 1 ≤ R.cells ∧ P.slots + A.slots.size ≤ R.slots)
      (fun P _ v B => ∃ L, Q Z x A h v B.U.heap L ∧ B.locs = P.locs ++ L ∧ B.cells = P.cells + 1 ∧ B.slots = P.slots + A.slots.size) := by
  intro m meth c P g ig mk a X hg hsize hdg hW hn hp'
  obtain ⟨rfl, rfl, r1, r2⟩ := hp'
  have al : Z.vm.Alike P.U.vm := hZ.alike.trans X.warmed.alike
  obtain ⟨D, cfV, kV, iV, fV, hD, gV, stV, knV, obV, asV, slV⟩ := id V
  obtain ⟨D', cfC, kC, iC, fC, hD', gC, stC, -, -, asC, slC⟩ := id C
  cases hD.symm.trans hD'
  obtain ⟨D2, kD, e1, e2, e3, e4, e5⟩ := id E
  cases hD.symm.trans e1
  obtain ⟨c2, k2, i1, i2, i3, -⟩ := Cond.instantiable_spec wi
  cases e2.symm.trans i1
  cases e3.symm.trans i2
  obtain ⟨kU, u1, u2⟩ := al.2.2 _ _ e3
  have hB : Blank ST x D P.U := ⟨hD, ⟨knV, fun q hq => by rw [hq] at obV; cases obV⟩, by rw [al.findClass]; exact e2, kU, u1, by rw [u2]; exact i3, by rw [u2]; exact e5 i3⟩
  have F1 : Found ST "value" "[B" fV P.U := ⟨SBG.found_only al ⟨cfV, kV, iV, gV⟩, stV⟩
  have F2 : Found ST "coder" "B" fC P.U := ⟨SBG.found_only al ⟨cfC, kC, iC, gC⟩, stC⟩
  have hA : Ch b A P.U := ⟨⟨K.1, State.isArrayOf_alike al K.2.1, K.2.2, by omega⟩, hty⟩
  have hS : StaticIs P.U ST "COMPACT_STRINGS" "Z" (.int z) := by
    obtain ⟨cfS, iS, kS, fS, st, cS, t1, t2, t3, t4, t5, t6, t7⟩ := S
    exact StaticIs.there (s := { Z with heap := P.U.heap }) ⟨cfS, iS, kS, fS, st, cS, t1, t2, t3, t4, t5, (fun q => by rw [q] at t6; cases t6), t7⟩ al rfl
  obtain ⟨v, B, X', ⟨⟨hv, E', V', q1, q2, q3, q4, q5, q6, q7, q8, q9, q10, q11⟩, hl, hc, hs⟩, st⟩ := New1.pays x D fV fC b A z (tab_of (moved hZ hw)) hfr hlo m meth c P g ig mk _ X hg hsize hdg hW hn ⟨r1, r2, rfl, hB, F1, F2, hA, hS, hz, l0, l2, hp⟩
  have al' : Z.vm.Alike B.U.vm := hZ.alike.trans X'.warmed.alike
  have hsz : E'.slots.size = D.slots.size := by
    obtain ⟨-, -, -, kB, w1, w2, w3⟩ := q1
    obtain ⟨kB', y1, y2⟩ := al'.2.2 _ _ e3
    rw [q2.2.1] at w1
    cases w1.symm.trans y1
    rw [w3, e5 i3, y2]
  refine ⟨v, B, X', ⟨_, ⟨hv, ?_, ⟨by omega, fun y cy hy hn' => q10 y cy (by simpa using hn') hy, fun y cy hy => ?_⟩, q11, ⟨E', _, q1.1, by rw [q2.2.1]; exact e2, by rw [q2.2.1]; exact e3, by rw [q2.1]; exact obV, fun _ => by rw [hsz]; exact e5 i3⟩,
    ⟨E', cfV, kV, iV, fV, q1.1, gV, stV, by rw [q2.1]; exact knV, by rw [q2.1]; exact obV, by rw [q2.2.1]; exact asV, q3⟩, ⟨E', cfC, kC, iC, fC, q1.1, gC, stC, by rw [q2.1]; exact knV, by rw [q2.1]; exact obV, by rw [q2.2.1]; exact asC, q4⟩,
    ⟨V', ⟨q5.1, State.isArrayOf_alike al'.symm q5.2.1, q5.2.2.1⟩, q6, by rw [← al'.findClass]; exact q7, q8, fun j hj => by have := q9 j hj; rwa [Nat.zero_add] at this⟩, fun O n d w F n1 n2 => ?_⟩, hl, hc, hs⟩, st⟩
  · intro y hy
    simp only [List.mem_cons, List.not_mem_nil, or_false] at hy
    rcases hy with rfl | rfl <;> rfl
  · by_cases q : y = x
    · subst q
      cases hD.symm.trans hy
      exact ⟨E', q1.1, q2.2.1, q2.1, hsz⟩
    · exact ⟨cy, q10 y cy q hy, rfl, rfl, rfl⟩
  · obtain ⟨D3, cf, k, i, f, g1, g2, g3, g4, g5, g6, g7⟩ := F
    cases hD.symm.trans g1
    simp only [RoadKit.slotOf, g2, gV, gC, Option.map_some, Option.getD_some] at n1 n2
    exact ⟨E', cf, k, i, f, q1.1, g2, g3, by rw [q2.1]; exact g4, by rw [q2.1]; exact g5, by rw [q2.2.1]; exact g6, by rw [q2.2.2 f.slot (by simp [n1, n2])]; exact g7⟩
end StrChars.Road
namespace StrChars.Road
open Jvm Sem ClassFile Op Lib Jvm.Stand Jvm.Free Jvm.Free.XT
/-- WHAT COMES BACK, the byte[] as a list of values -/
def QA (Z : State) (x : Addr) (zn : Int32) (cs : List Int32) (h : Heap) (v : Option Value) (h' : Heap) (L : List Loc) : Prop := v = none ∧ (∀ y ∈ L, y.base = x) ∧ RoadKit.Keep h h' [x] ∧ h'.size = h.size + 1 ∧ RoadKit.Exa Z h' x ST ∧ RoadKit.Fld Z h' x ST "value" "[B" (.ref h.size) ∧ RoadKit.Fld Z h' x ST "coder" "B" (.int 0) ∧
  (∃ kb, Z.vm.findClass "[B" = some kb ∧ RoadKit.Arv Z h' h.size kb .byte zn (cs.map fun c => .int (lo8 c)) (.int 0)) ∧
  ∀ (O n d : String) (w : Value), RoadKit.Fld Z h x O n d w → RoadKit.slotOf Z O n d ≠ RoadKit.slotOf Z ST "value" "[B" → RoadKit.slotOf Z O n d ≠ RoadKit.slotOf Z ST "coder" "B" → RoadKit.Fld Z h' x O n d w
/-- **new String(chars) AT A CALL, THE ARRAYS AS LISTS**: the char[] at b holds cs, not empty, no char above 255 -/
theorem backArv {p : Program} {l : Launch} {e : Env} {R : Room} {s : State} {args : Array Value} {below : List Frame} {len W : Nat} {Z : State} {a0 : Array Value} {h : Heap} (hZ : Z.Warmed39 s.vm) (hw : ∀ d ∈ words, d.before a0 Z = true) {kI : Nat} (wi : (Jvm.Cond.instantiable ST kI).before a0 Z = true)
    {x b : Addr} {k : ClassId} {zn z : Int32} {cs : List Int32} {dv v0 c0 : Value} (E : RoadKit.Exa Z h x ST) (V : RoadKit.Fld Z h x ST "value" "[B" v0) (C : RoadKit.Fld Z h x ST "coder" "B" c0) (K : RoadKit.Arv Z h b k .char zn (cs.map Value.int) dv) (S : RoadKit.Sta Z h ST "COMPACT_STRINGS" "Z" (.int z)) (hz : ¬ z = 0)
    (hlen : zn.toNatClampNeg = cs.length) (h0 : 0 < cs.length) (hbig : cs.length ≤ 536870912) (hall : ∀ c ∈ cs, ¬ 255 < c) (hfr : 4 ≤ R.frames) (hlo : W + 65 ≤ R.locals) :
    Back l R p e below s args New1.yN len W (fun P a => a = #[.ref x, .ref b] ∧ P.U.heap = h ∧ P.cells + 1 ≤ R.cells ∧ P.slots + cs.length ≤ R.slots)
      (fun P _ v B => ∃ L, QA Z x zn cs h v B.U.heap L ∧ B.locs = P.locs ++ L ∧ B.cells = P.cells + 1 ∧ B.slots = P.slots + cs.length) := by
  obtain ⟨A, K1, K2, K3, K4, K5, K6⟩ := K
  have e : A.slots.size = cs.length := K3.trans hlen
  have hat : ∀ (i : Nat) (hi : i < cs.length), A.slots[i]? = some (.int cs[i]) := fun i hi => by rw [K5 i (by omega)]; simp [List.getD_eq_getElem?_getD, hi]
  have hcv : ∀ (i : Nat) (hi : i < cs.length), cv A i = cs[i] := fun i hi => by unfold cv; rw [hat i hi]
  have hty : Typed .char A := fun i v hv => by
    have hi : i < A.slots.size := (Array.getElem?_eq_some_iff.mp hv).1
    have q := K5 i hi
    rw [hv] at q
    rw [Option.some.inj q]
    exact K6 i hi
  refine Back.mono (back hZ hw wi E V C K1 hty S hz (by omega) (by omega) (fun i hi => by rw [hcv i (by omega)]; exact hall _ (List.getElem_mem _)) hfr hlo) (fun P a hp => ⟨hp.1, hp.2.1, hp.2.2.1, by rw [e]; exact hp.2.2.2⟩) (fun P a v B hp hq => ?_)
  obtain ⟨L, ⟨q1, q2, q3, q4, q5, q6, q7, ⟨V', v1, v2, v3, v4, v5⟩, q9⟩, hl, hc, hs⟩ := hq
  refine ⟨L, ⟨q1, q2, q3, q4, q5, q6, q7, ⟨V'.cls, v3, V', v1, rfl, by rw [v4, e, hlen], K4, fun i hi => ?_, fun i hi => ?_⟩, q9⟩, hl, hc, by rw [hs, e]⟩
  · have hi' : i < cs.length := by omega
    rw [v5 i (by omega), hcv i hi']; simp [List.getD_eq_getElem?_getD, hi']
  · have hi' : i < cs.length := by omega
    simp only [List.getD_eq_getElem?_getD, List.getElem?_map, List.getElem?_eq_getElem hi', Option.map_some, Option.getD_some]
    exact fits_lo8 _
end StrChars.Road
namespace StrChars.Road
open Jvm Sem ClassFile Op Lib Jvm.Stand Jvm.Free Jvm.Free.XT
/-- WHAT COMES BACK, in the writer's own shape -/
def QV (Z : State) (x : Addr) (N : Int32) (bs : List Int32) (h : Heap) (n0 : Nat) (v : Option Value) (h' : Heap) (L : List Loc) : Prop := v = none ∧ RoadKit.Fr n0 L ∧ RoadKit.Keep h h' [x] ∧ RoadKit.Exa Z h' x ST ∧ RoadKit.Fld Z h' x ST "coder" "B" (.int 0) ∧
  ∃ (t : Addr) (kb : ClassId), n0 ≤ t ∧ h.size ≤ t ∧ ¬ t = x ∧ RoadKit.Fld Z h' x ST "value" "[B" (.ref t) ∧ RoadKit.Arv Z h' t kb .byte N (bs.map Value.int) (.int 0)
/-- **new String(chars) AT A CALL, FOR THE WRITER**: a char[] of n known ints, each 0 to 255 -/
theorem backV {p : Program} {l : Launch} {e : Env} {R : Room} {s : State} {args : Array Value} {below : List Frame} {len W : Nat} {Z : State} {a0 : Array Value} {h : Heap} (hZ : Z.Warmed39 s.vm) (hw : ∀ d ∈ words, d.before a0 Z = true) {kI : Nat} (wi : (Jvm.Cond.instantiable ST kI).before a0 Z = true)
    {x b : Addr} {kC : ClassId} {cs bs : List Int32} {d v0 c0 : Value} {z N : Int32} {n n0 : Nat} (hx0 : n0 ≤ x) (hh0 : n0 ≤ h.size) (E : RoadKit.Exa Z h x ST) (V : RoadKit.Fld Z h x ST "value" "[B" v0) (C : RoadKit.Fld Z h x ST "coder" "B" c0) (K : RoadKit.Arv Z h b kC .char N (cs.map Value.int) d) (S : RoadKit.Sta Z h ST "COMPACT_STRINGS" "Z" (.int z)) (hz : ¬ z = 0)
    (hn : cs.length = n) (hN : N = Int32.ofNat n) (l0 : 0 < n) (l2 : n ≤ 4000) (hp : ∀ c ∈ cs, ¬ c < 0 ∧ ¬ (255 : Int32) < c) (hb : bs = cs.map (fun c => c.toInt8.toInt32)) (hfr : 4 ≤ R.frames) (hlo : W + 65 ≤ R.locals) :
    Back l R p e below s args (⟨"java/lang/String", "<init>", "([C)V"⟩ : MethodName) len W (fun P a => a = #[.ref x, .ref b] ∧ P.U.heap = h ∧ P.cells + 1 ≤ R.cells ∧ P.slots + n ≤ R.slots)
      (fun P _ v B => ∃ L, QV Z x N bs h n0 v B.U.heap L ∧ B.locs = P.locs ++ L ∧ B.cells = P.cells + 1 ∧ B.slots = P.slots + n) := by
  subst hn hN hb
  refine Back.mono (backArv hZ hw wi E V C K S hz (n32 (by omega)) l0 (by omega) (fun c hc => (hp c hc).2) hfr hlo) (fun P a hp => hp) (fun P a v B hp hq => ?_)
  obtain ⟨L, ⟨q1, q2, q3, q4, q5, q6, q7, ⟨kb, v1, v2⟩, q9⟩, hl, hc, hs⟩ := hq
  exact ⟨L, ⟨q1, fun y hy => by rw [q2 y hy]; exact hx0, q3, q5, q7, h.size, kb, hh0, Nat.le_refl _, Nat.ne_of_gt E.lt, q6, by rw [List.map_map]; exact v2⟩, hl, hc, hs⟩
end StrChars.Road
namespace StrChars
open Jvm Sem ClassFile Op Lib Jvm.Stand Jvm.Free.XT Jvm.Free.ALB Jvm.Free.JM Jvm.Free
open Jvm.Lib.Cold (StaticIs)
def hi8 (x : Int32) : Int32 := lo8 (x >>> ((8 : Int32) &&& 31))
/-- what StringUTF16.getChar makes of two bytes -/
def pairCh (u v : Int32) : Int32 := (((u &&& 255) <<< ((0 : Int32) &&& 31)) ||| ((v &&& 255) <<< ((8 : Int32) &&& 31))).toUInt32.toUInt16.toUInt32.toInt32
theorem shr0 (c : Int32) : c >>> ((0 : Int32) &&& 31) = c := by
  have e : ((0 : Int32) &&& 31) = 0 := by decide
  rw [e]
  apply Int32.toBitVec_inj.mp
  rw [Int32.toBitVec_shiftRight]
  have e1 : ((0 : Int32).toBitVec.smod 32) = 0#32 := by decide
  rw [e1, BitVec.sshiftRight_eq']
  exact BitVec.sshiftRight_zero
theorem lo8_and (x : Int32) : (lo8 x &&& 255).toBitVec.toNat = x.toBitVec.toNat % 256 := by
  have h : (lo8 x).toBitVec = (x.toBitVec.signExtend 8).signExtend 32 := by rw [lo8, Int8.toBitVec_toInt32, Int32.toBitVec_toInt8]
  rw [Int32.toBitVec_and, BitVec.toNat_and, h]
  have e : ((x.toBitVec.signExtend 8).signExtend 32).toNat % 256 = x.toBitVec.toNat % 256 := by
    rw [BitVec.toNat_signExtend]
    have hlt := x.toBitVec.isLt
    simp only [BitVec.toNat_setWidth, BitVec.toNat_signExtend]
    split <;> split <;> omega
  rw [← e]
  exact Nat.and_two_pow_sub_one_eq_mod _ 8
theorem pair_says {c : Int32} (h0 : ¬ c < 0) (h1 : ¬ 65535 < c) : pairCh (lo8 c) (hi8 c) = c := by
  rw [Int32.lt_iff_toInt_lt] at h0 h1
  have e0 : (0 : Int32).toInt = 0 := rfl
  have e1 : (65535 : Int32).toInt = 65535 := rfl
  have hc : c.toInt = c.toBitVec.toNat := by
    have := c.toBitVec.isLt
    have e : c.toInt = c.toBitVec.toInt := rfl
    rw [e] at h0 h1
    rw [e]
    rw [BitVec.toInt_eq_toNat_cond] at h0 h1 ⊢
    split at h0 <;> split <;> omega
  have hn : c.toBitVec.toNat < 65536 := by omega
  have a1 := lo8_and c
  have a2 : (hi8 c &&& 255).toBitVec.toNat = c.toBitVec.toNat / 256 := by
    rw [hi8, lo8_and]
    have e : ((8 : Int32) &&& 31) = 8 := by decide
    rw [e, Int32.toBitVec_shiftRight]
    have e2 : ((8 : Int32).toBitVec.smod 32) = 8#32 := by decide
    rw [e2, BitVec.sshiftRight_eq', BitVec.toNat_sshiftRight_of_msb_false (by rw [BitVec.msb_eq_false_iff_two_mul_lt]; omega)]
    show c.toBitVec.toNat >>> 8 % 256 = _
    rw [Nat.shiftRight_eq_div_pow]
    omega
  unfold pairCh
  apply Int32.toBitVec_inj.mp
  apply BitVec.eq_of_toNat_eq
  have f0 : ((0 : Int32) &&& 31) = 0 := by decide
  have f8 : ((8 : Int32) &&& 31) = 8 := by decide
  rw [f0, f8]
  have g : (((lo8 c &&& 255) <<< (0 : Int32)) ||| ((hi8 c &&& 255) <<< (8 : Int32))).toBitVec.toNat = c.toBitVec.toNat := by
    rw [Int32.toBitVec_or, Int32.toBitVec_shiftLeft, Int32.toBitVec_shiftLeft]
    have s0 : ((0 : Int32).toBitVec.smod 32) = 0#32 := by decide
    have s8 : ((8 : Int32).toBitVec.smod 32) = 8#32 := by decide
    rw [s0, s8, BitVec.toNat_or]
    simp only [BitVec.shiftLeft_eq', BitVec.toNat_shiftLeft, a1, a2]
    show (c.toBitVec.toNat % 256) <<< 0 % 2 ^ 32 ||| (c.toBitVec.toNat / 256) <<< 8 % 2 ^ 32 = _
    rw [Nat.shiftLeft_zero, Nat.mod_eq_of_lt (show c.toBitVec.toNat % 256 < 2 ^ 32 by omega), Nat.mod_eq_of_lt (show (c.toBitVec.toNat / 256) <<< 8 < 2 ^ 32 by rw [Nat.shiftLeft_eq]; omega), Nat.or_comm, ← Nat.shiftLeft_add_eq_or_of_lt (by omega), Nat.shiftLeft_eq]
    omega
  show BitVec.toNat (((((lo8 c &&& 255) <<< (0 : Int32)) ||| ((hi8 c &&& 255) <<< (8 : Int32))).toBitVec.setWidth 16).setWidth 32) = _
  rw [BitVec.toNat_setWidth, BitVec.toNat_setWidth, g]
  omega
end StrChars
namespace StrChars
open Jvm Sem ClassFile Op Lib Jvm.Stand Jvm.Free.XT Jvm.Free.ALB Jvm.Free.JM Jvm.Free
open Jvm.Lib.Cold (StaticIs)
theorem shr1 {n : Nat} (h : 2 * n < 2 ^ 31) : Int32.ofNat (2 * n) >>> ((1 : Int32) &&& 31) = Int32.ofNat n := by
  have e : ((1 : Int32) &&& 31) = 1 := by decide
  rw [e]
  apply Int32.toBitVec_inj.mp
  rw [Int32.toBitVec_shiftRight]
  have e1 : ((1 : Int32).toBitVec.smod 32) = 1#32 := by decide
  have hm : (BitVec.ofNat 32 (2 * n)).toNat = 2 * n := by rw [BitVec.toNat_ofNat, Nat.mod_eq_of_lt (by omega)]
  rw [e1, BitVec.sshiftRight_eq']
  apply BitVec.eq_of_toNat_eq
  show ((BitVec.ofNat 32 (2 * n)).sshiftRight 1).toNat = (BitVec.ofNat 32 n).toNat
  rw [BitVec.toNat_sshiftRight_of_msb_false (by rw [BitVec.msb_eq_false_iff_two_mul_lt, hm]; omega), hm, BitVec.toNat_ofNat, Nat.shiftRight_eq_div_pow]
  omega
/-- charAt's cast of a byte read back -/
def chr8 (u : Int32) : Int32 := (u &&& 255).toUInt32.toUInt16.toUInt32.toInt32
theorem chr8_lo8 {c : Int32} (h0 : ¬ c < 0) (h1 : ¬ 255 < c) : chr8 (lo8 c) = c := by
  have t : ∀ k : Fin 256, (Int32.ofNat k.val).toUInt32.toUInt16.toUInt32.toInt32 = Int32.ofNat k.val := by decide +kernel
  unfold chr8
  rw [lo8_mask h0 h1]
  rw [Int32.lt_iff_toInt_lt] at h0 h1
  have e0 : (0 : Int32).toInt = 0 := rfl
  have e1 : (255 : Int32).toInt = 255 := rfl
  obtain ⟨k, hk⟩ : ∃ k : Nat, c.toInt = k := ⟨c.toInt.toNat, by omega⟩
  have hx : c = Int32.ofNat k := Int32.toInt_inj.mp (by rw [hk, Int32.toInt_ofNat_small (by omega)])
  rw [hx]
  exact t ⟨k, by omega⟩
theorem narrow_ch {c : Int32} (h0 : ¬ c < 0) (h1 : ¬ 65535 < c) : narrow .char (.int c) = .int c := by
  have q : narrow .char (.int (pairCh (lo8 c) (hi8 c))) = .int (pairCh (lo8 c) (hi8 c)) := narrow_c _
  rwa [pair_says h0 h1] at q
/-- the array's cell V codes the n chars f 0 .. f (n - 1) by the coder cd, as the JDK does: coder 1 just where some char is above 255 -/
def Cod (cd : Int32) (n : Nat) (f : Nat → Int32) (V : Cell) : Prop := (cd = 0 ∧ V.slots.size = n ∧ ∀ j, j < n → V.slots[j]? = some (.int (lo8 (f j))) ∧ ¬ 255 < f j) ∨ (cd = 1 ∧ V.slots.size = 2 * n ∧ (∀ j, j < n → V.slots[2 * j]? = some (.int (lo8 (f j))) ∧ V.slots[2 * j + 1]? = some (.int (hi8 (f j)))) ∧ ∃ j, j < n ∧ 255 < f j)
theorem Cod.cd {cd : Int32} {n : Nat} {f : Nat → Int32} {V : Cell} (h : Cod cd n f V) : cd = 0 ∨ cd = 1 := h.imp (fun q => q.1) fun q => q.1
theorem Cod.len {cd : Int32} {n : Nat} {f : Nat → Int32} {V : Cell} (h : Cod cd n f V) (hs : V.slots.size < 2 ^ 31) : Int32.ofNat V.slots.size >>> (cd &&& 31) = Int32.ofNat n := by
  rcases h with ⟨rfl, h, -⟩ | ⟨rfl, h, -⟩
  · rw [shr0, h]
  · rw [h, shr1 (by omega)]
/-- **x is a String of the n chars f 0 .. f (n - 1)**, Latin-1 or UTF-16; its array at t has the cell V -/
def Txt (x t : Addr) (V : Cell) (cd : Int32) (n : Nat) (f : Nat → Int32) (U : State) : Prop := Exact "java/lang/String" x U ∧ Has x "java/lang/String" "value" "[B" (.ref t) U ∧ Has x "java/lang/String" "coder" "B" (.int cd) U ∧ XT.Arr .byte t V U ∧ Cod cd n f V ∧ ∀ j, j < n → ¬ f j < 0 ∧ ¬ 65535 < f j
theorem Txt.mv {x t : Addr} {V : Cell} {cd : Int32} {n : Nat} {f : Nat → Int32} {U U' : State} (h : Txt x t V cd n f U) (hal : U.vm.Alike U'.vm) (hh : U'.heap = U.heap) : Txt x t V cd n f U' := ⟨h.1.mv hal hh, h.2.1.mv hal hh, h.2.2.1.mv hal hh, h.2.2.2.1.mv hal hh, h.2.2.2.2⟩
namespace Cdr
def yN : MethodName := ⟨"java/lang/String", "coder", "()B"⟩
abbrev yB : ByteArray := jdk_42_method_152_code
theorem d0 : decode yB 0 = .ok (.getstatic 38, 3) := by decide +kernel
theorem d3 : decode yB 3 = .ok (.ifCond (.eq) 10, 3) := by decide +kernel
theorem d6 : decode yB 6 = .ok (.aload_n 0, 1) := by decide +kernel
theorem d7 : decode yB 7 = .ok (.getfield 15, 3) := by decide +kernel
theorem d10 : decode yB 10 = .ok (.goto 4, 3) := by decide +kernel
theorem d14 : decode yB 14 = .ok (.ireturn, 1) := by decide +kernel
def site : List Cond := [.fieldLink "java/lang/String" 38 "java/lang/String" "COMPACT_STRINGS" "Z", .fieldLink "java/lang/String" 15 "java/lang/String" "coder" "B"]
def tab : Cond := tabOf yN yB 1 (some .byte) site
def P (x : Addr) (cd z : Int32) (args : Array Value) (s : State) : Prop := args = #[.ref x] ∧ Has x "java/lang/String" "coder" "B" (.int cd) s ∧ (cd = 0 ∨ cd = 1) ∧ StaticIs s "java/lang/String" "COMPACT_STRINGS" "Z" (.int z) ∧ ¬ z = 0
def E (cd : Int32) (r : Option Value) (s u : State) : Prop := XT.PureE (some (.int cd)) r s u
theorem law (l : Launch) (x : Addr) (cd z : Int32) : Law l yN 1 0 0 0 yB 1 (some .byte) site (P x cd z) (E cd) [] 0 0 := by
  refine Law.of_walk (plainFor_of_name (by decide +kernel)) (by decide +kernel) (by decide +kernel) (by decide) (fun _ _ h => by rw [h.1]; rfl) (fun _ U U' hal hh h => ⟨h.1, h.2.1.mv hal hh, h.2.2.1, h.2.2.2.1.there hal hh, h.2.2.2.2⟩) (fun r U U' V V' h1 hal h2 h => XT.PureE.mv r U U' V V' h1 hal h2 h) ?_
  intro p e s m args below meth c s₁ X0 hexec hbytes hml hret hlk hnm hown hh0 W hP
  obtain ⟨rfl, hx, hc, s1, hz⟩ := hP
  have c1 : Steps p.tables e below (s₁.setTop (entryFrame m #[.ref x] 1)) (s₁.setTop (mkF m 0 #[.val (.ref x)] [])) := entry rfl
  obtain ⟨T2, X2, q2, st2⟩ := X0.sget hexec hown (wk W (.fieldLink "java/lang/String" 38 "java/lang/String" "COMPACT_STRINGS" "Z")) s1 (fun _ _ h => by rw [hh0]; exact h) (g := (mkF m 0 #[.val (.ref x)] [])) rfl (hb hbytes d0)
  have hh2 := q2.trans hh0
  have c3 : Steps p.tables e below (s₁.setTop (entryFrame m #[.ref x] 1)) (T2.setTop (mkF m 7 #[.val (.ref x)] [.ref x])) := (c1.trans (st2 _ (Steps.refl _))).trans (by
    refine XS.ifNo X2.here hexec rfl (hb hbytes d3) rfl (i0_eq_f hz) ?_
    refine XS.aloadN X2.here hexec rfl (hb hbytes d6) rfl rfl ?_
    exact Steps.refl _)
  obtain ⟨T4, X4, q4, st4⟩ := X2.hget hexec hown (wk W (.fieldLink "java/lang/String" 15 "java/lang/String" "coder" "B")) (hx.mv X2.warmed.alike hh2) (g := (mkF m 7 #[.val (.ref x)] [.ref x])) rfl (rest := []) rfl (hb hbytes d7)
  have c5 : Steps p.tables e below (s₁.setTop (entryFrame m #[.ref x] 1)) (T4.setTop (mkF m 14 #[.val (.ref x)] [.int cd])) := (c3.trans (st4 _ (Steps.refl _))).trans (by
    refine XS.goto X4.here hexec rfl (pc0 := 10) rfl (hb hbytes d10) (by decide) rfl ?_
    exact Steps.refl _)
  exact ⟨T4, some (.int cd), _, _, _, X4, rfl, rfl, rfl, (fun h => by cases h), ⟨rfl, q4.trans hh2⟩, fun fs hl => c5.trans (X4.ireturnOut hexec hret (by rcases hc with rfl | rfl <;> rfl) (Or.inr (Or.inr (Or.inl rfl))) (hb hbytes d14) hl)⟩
end Cdr
namespace Len
def yN : MethodName := ⟨"java/lang/String", "length", "()I"⟩
abbrev yB : ByteArray := jdk_42_method_54_code
theorem d0 : decode yB 0 = .ok (.aload_n 0, 1) := by decide +kernel
theorem d1 : decode yB 1 = .ok (.getfield 9, 3) := by decide +kernel
theorem d4 : decode yB 4 = .ok (.arraylength, 1) := by decide +kernel
theorem d5 : decode yB 5 = .ok (.aload_n 0, 1) := by decide +kernel
theorem d6 : decode yB 6 = .ok (.invokevirtual 335, 3) := by decide +kernel
theorem d9 : decode yB 9 = .ok (.ishr, 1) := by decide +kernel
theorem d10 : decode yB 10 = .ok (.ireturn, 1) := by decide +kernel
def site : List Cond := [.fieldLink "java/lang/String" 9 "java/lang/String" "value" "[B", Cdr.tab] ++ virtW "java/lang/String" 335 "java/lang/String" Cdr.yN Cdr.yN
def tab : Cond := tabOf yN yB 1 (some .int) site
def P (x t : Addr) (V : Cell) (cd : Int32) (n : Nat) (f : Nat → Int32) (z : Int32) (args : Array Value) (s : State) : Prop := args = #[.ref x] ∧ Txt x t V cd n f s ∧ StaticIs s "java/lang/String" "COMPACT_STRINGS" "Z" (.int z) ∧ ¬ z = 0
def E (n : Nat) (r : Option Value) (s u : State) : Prop := XT.PureE (some (.int (Int32.ofNat n))) r s u
/-- length() of a String of n chars, in either coding -/
theorem law (l : Launch) (x t : Addr) (V : Cell) (cd : Int32) (n : Nat) (f : Nat → Int32) (z : Int32) : Law l yN 1 0 1 13 yB 1 (some .int) site (P x t V cd n f z) (E n) [] 0 0 := by
  refine Law.of_walk (plainFor_of_name (by decide +kernel)) (by decide +kernel) (by decide +kernel) (by decide) (fun _ _ h => by rw [h.1]; rfl) (fun _ U U' hal hh h => ⟨h.1, h.2.1.mv hal hh, h.2.2.1.there hal hh, h.2.2.2⟩) (fun r U U' V V' h1 hal h2 h => XT.PureE.mv r U U' V V' h1 hal h2 h) ?_
  intro p e s m args below meth c s₁ X0 hexec hbytes hml hret hlk hnm hown hh0 W hP
  obtain ⟨rfl, hx, s1, hz⟩ := hP
  have v31 := hx.2.2.2.1.2.2.2
  have c1 : Steps p.tables e below (s₁.setTop (entryFrame m #[.ref x] 1)) (s₁.setTop (mkF m 1 #[.val (.ref x)] [.ref x])) := Steps.trans (entry rfl) (by
    show Steps p.tables e below (s₁.setTop (mkF m 0 #[.val (.ref x)] [])) _
    refine XS.aloadN X0.here hexec rfl (hb hbytes d0) rfl rfl ?_
    exact Steps.refl _)
  obtain ⟨T2, X2, q2, st2⟩ := X0.hget hexec hown (wk W (.fieldLink "java/lang/String" 9 "java/lang/String" "value" "[B")) (hx.mv X0.warmed.alike hh0).2.1 (g := (mkF m 1 #[.val (.ref x)] [.ref x])) rfl (rest := []) rfl (hb hbytes d1)
  have hh2 := q2.trans hh0
  have hx2 := hx.mv X2.warmed.alike hh2
  have c3 : Steps p.tables e below (s₁.setTop (entryFrame m #[.ref x] 1)) (T2.setTop (mkF m 6 #[.val (.ref x)] [.ref x, .int (Int32.ofNat V.slots.size)])) := (c1.trans (st2 _ (Steps.refl _))).trans (by
    refine X2.alen hexec hx2.2.2.2.1 rfl rfl (hb hbytes d4) ?_
    refine XS.aloadN X2.here hexec rfl (hb hbytes d5) rfl rfl ?_
    exact Steps.refl _)
  obtain ⟨v4, T4, X4, E4, g4⟩ := X2.callV hexec (Cdr.law l x cd z) hown (wks W (virtW "java/lang/String" 335 "java/lang/String" Cdr.yN Cdr.yN)) rfl (by decide) (wk W Cdr.tab) (W := 1) (Nat.le_of_ble_eq_true rfl) (Nat.le_of_ble_eq_true rfl) (Nat.le_refl _) (Nat.le_refl _) (hx2.1.fc X2.warmed.alike) hx2.1.is (g := (mkF m 6 #[.val (.ref x)] [.ref x, .int (Int32.ofNat V.slots.size)])) rfl (by rw [hml]; rfl) c3 (argsL := []) (rest := [.int (Int32.ofNat V.slots.size)]) rfl rfl (by show 2 * 0 + (1 + 0) ≤ _; decide) (hb hbytes d6) (⟨rfl, hx2.2.2.1, hx.2.2.2.2.1.cd, s1.there X2.warmed.alike hh2, hz⟩)
  obtain ⟨rfl, q4⟩ := E4
  have c5 : Steps p.tables e below (s₁.setTop (entryFrame m #[.ref x] 1)) (T4.setTop (mkF m 10 #[.val (.ref x)] [.int (Int32.ofNat V.slots.size >>> (cd &&& 31))])) := Steps.trans g4 (by
    refine ishr X4.here hexec rfl (hb hbytes d9) rfl ?_
    exact Steps.refl _)
  rw [hx.2.2.2.2.1.len v31] at c5
  exact ⟨T4, some (.int (Int32.ofNat n)), _, _, _, X4, rfl, rfl, rfl, (fun h => by cases h), ⟨rfl, q4.trans hh2⟩, fun fs hl => c5.trans (X4.ireturnOut hexec hret rfl (Or.inl rfl) (hb hbytes d10) hl)⟩
theorem pays {l : Launch} {R : Room} {p : Program} {e : Env} {below : List Frame} {s : State} {sargs : Array Value} {len W : Nat} (x t : Addr) (V : Cell) (cd : Int32) (n : Nat) (f : Nat → Int32) (z : Int32) (htab : tab.before sargs s = true) (hfr : 2 ≤ R.frames) (hlo : W + 25 ≤ R.locals) :
    Back l R p e below s sargs yN len W (fun A₁ a₁ => A₁.cells + 0 ≤ R.cells ∧ A₁.slots + 0 ≤ R.slots ∧ P x t V cd n f z a₁ A₁.U) (fun A₁ _ v₁ B₁ => E n v₁ A₁.U B₁.U ∧ B₁.locs = A₁.locs ++ [] ∧ B₁.cells = A₁.cells + 0 ∧ B₁.slots = A₁.slots + 0) :=
  (law l x t V cd n f z).pays htab hfr (by omega)
end Len
namespace IsL
def yN : MethodName := ⟨"java/lang/String", "isLatin1", "()Z"⟩
abbrev yB : ByteArray := jdk_42_method_154_code
theorem d0 : decode yB 0 = .ok (.getstatic 38, 3) := by decide +kernel
theorem d3 : decode yB 3 = .ok (.ifCond (.eq) 14, 3) := by decide +kernel
theorem d6 : decode yB 6 = .ok (.aload_n 0, 1) := by decide +kernel
theorem d7 : decode yB 7 = .ok (.getfield 15, 3) := by decide +kernel
theorem d10 : decode yB 10 = .ok (.ifCond (.ne) 7, 3) := by decide +kernel
theorem d13 : decode yB 13 = .ok (.iconst 1, 1) := by decide +kernel
theorem d14 : decode yB 14 = .ok (.goto 4, 3) := by decide +kernel
theorem d17 : decode yB 17 = .ok (.iconst 0, 1) := by decide +kernel
theorem d18 : decode yB 18 = .ok (.ireturn, 1) := by decide +kernel
def site : List Cond := [.fieldLink "java/lang/String" 38 "java/lang/String" "COMPACT_STRINGS" "Z", .fieldLink "java/lang/String" 15 "java/lang/String" "coder" "B"]
def tab : Cond := tabOf yN yB 1 (some .boolean) site
def P (x : Addr) (cd z : Int32) (args : Array Value) (s : State) : Prop := args = #[.ref x] ∧ Has x "java/lang/String" "coder" "B" (.int cd) s ∧ (cd = 0 ∨ cd = 1) ∧ StaticIs s "java/lang/String" "COMPACT_STRINGS" "Z" (.int z) ∧ ¬ z = 0
def E (cd : Int32) (r : Option Value) (s u : State) : Prop := XT.PureE (some (.int (1 - cd))) r s u
theorem law (l : Launch) (x : Addr) (cd z : Int32) : Law l yN 1 0 0 0 yB 1 (some .boolean) site (P x cd z) (E cd) [] 0 0 := by
  refine Law.of_walk (plainFor_of_name (by decide +kernel)) (by decide +kernel) (by decide +kernel) (by decide) (fun _ _ h => by rw [h.1]; rfl) (fun _ U U' hal hh h => ⟨h.1, h.2.1.mv hal hh, h.2.2.1, h.2.2.2.1.there hal hh, h.2.2.2.2⟩) (fun r U U' V V' h1 hal h2 h => XT.PureE.mv r U U' V V' h1 hal h2 h) ?_
  intro p e s m args below meth c s₁ X0 hexec hbytes hml hret hlk hnm hown hh0 W hP
  obtain ⟨rfl, hx, hc, s1, hz⟩ := hP
  have c1 : Steps p.tables e below (s₁.setTop (entryFrame m #[.ref x] 1)) (s₁.setTop (mkF m 0 #[.val (.ref x)] [])) := entry rfl
  obtain ⟨T2, X2, q2, st2⟩ := X0.sget hexec hown (wk W (.fieldLink "java/lang/String" 38 "java/lang/String" "COMPACT_STRINGS" "Z")) s1 (fun _ _ h => by rw [hh0]; exact h) (g := (mkF m 0 #[.val (.ref x)] [])) rfl (hb hbytes d0)
  have hh2 := q2.trans hh0
  have c3 : Steps p.tables e below (s₁.setTop (entryFrame m #[.ref x] 1)) (T2.setTop (mkF m 7 #[.val (.ref x)] [.ref x])) := (c1.trans (st2 _ (Steps.refl _))).trans (by
    refine XS.ifNo X2.here hexec rfl (hb hbytes d3) rfl (i0_eq_f hz) ?_
    refine XS.aloadN X2.here hexec rfl (hb hbytes d6) rfl rfl ?_
    exact Steps.refl _)
  obtain ⟨T4, X4, q4, st4⟩ := X2.hget hexec hown (wk W (.fieldLink "java/lang/String" 15 "java/lang/String" "coder" "B")) (hx.mv X2.warmed.alike hh2) (g := (mkF m 7 #[.val (.ref x)] [.ref x])) rfl (rest := []) rfl (hb hbytes d7)
  have c5 : Steps p.tables e below (s₁.setTop (entryFrame m #[.ref x] 1)) (T4.setTop (mkF m 10 #[.val (.ref x)] [.int cd])) := c3.trans (st4 _ (Steps.refl _))
  have c6 : Steps p.tables e below (s₁.setTop (entryFrame m #[.ref x] 1)) (T4.setTop (mkF m 18 #[.val (.ref x)] [.int (1 - cd)])) := by
    rcases hc with rfl | rfl
    · exact c5.trans (by
        refine XS.ifNo X4.here hexec rfl (hb hbytes d10) rfl (i0_ne_f rfl) ?_
        refine iconstV X4.here hexec rfl 1 (hb hbytes d13) (by decide) ?_
        refine XS.goto X4.here hexec rfl (pc0 := 14) rfl (hb hbytes d14) (by decide) rfl ?_
        exact Steps.refl _)
    · exact c5.trans (by
        refine XS.ifYes X4.here hexec rfl (pc0 := 10) rfl (hb hbytes d10) rfl (i0_ne_t (by decide)) (by decide) rfl ?_
        refine iconstV X4.here hexec rfl 0 (hb hbytes d17) (by decide) ?_
        exact Steps.refl _)
  exact ⟨T4, some (.int (1 - cd)), _, _, _, X4, rfl, rfl, rfl, (fun h => by cases h), ⟨rfl, q4.trans hh2⟩, fun fs hl => c6.trans (X4.ireturnOut hexec hret (by rcases hc with rfl | rfl <;> rfl) (Or.inr (Or.inl rfl)) (hb hbytes d18) hl)⟩
end IsL
namespace LChA
def yN : MethodName := ⟨"java/lang/StringLatin1", "charAt", "([BI)C"⟩
abbrev yB : ByteArray := jdk_43_method_2_code
theorem d0 : decode yB 0 = .ok (.iload_n 1, 1) := by decide +kernel
theorem d1 : decode yB 1 = .ok (.aload_n 0, 1) := by decide +kernel
theorem d2 : decode yB 2 = .ok (.arraylength, 1) := by decide +kernel
theorem d3 : decode yB 3 = .ok (.invokestatic 9, 3) := by decide +kernel
theorem d6 : decode yB 6 = .ok (.aload_n 0, 1) := by decide +kernel
theorem d7 : decode yB 7 = .ok (.iload_n 1, 1) := by decide +kernel
theorem d8 : decode yB 8 = .ok (.baload, 1) := by decide +kernel
theorem d9 : decode yB 9 = .ok (.sipush 255, 3) := by decide +kernel
theorem d12 : decode yB 12 = .ok (.iand, 1) := by decide +kernel
theorem d13 : decode yB 13 = .ok (.i2c, 1) := by decide +kernel
theorem d14 : decode yB 14 = .ok (.ireturn, 1) := by decide +kernel
def site : List Cond := [JO.Str_checkIndex.tab] ++ staticW "java/lang/StringLatin1" 9 JO.Str_checkIndex.yN
def tab : Cond := tabOf yN yB 2 (some .char) site
def P (t : Addr) (V : Cell) (i : Nat) (u : Int32) (fm : Value) (args : Array Value) (s : State) : Prop := args = #[.ref t, .int (Int32.ofNat i)] ∧ XT.Arr .byte t V s ∧ V.slots[i]? = some (.int u) ∧ (StaticIs s "jdk/internal/util/Preconditions" "SIOOBE_FORMATTER" "Ljava/util/function/BiFunction;" fm ∧ fm.isRef = true)
def E (u : Int32) (r : Option Value) (s w : State) : Prop := XT.PureE (some (.int (chr8 u))) r s w
theorem law (l : Launch) (t : Addr) (V : Cell) (i : Nat) (u : Int32) (fm : Value) : Law l yN 2 2 2 27 yB 2 (some .char) site (P t V i u fm) (E u) [] 0 0 := by
  refine Law.of_walk (plainFor_of_name (by decide +kernel)) (by decide +kernel) (by decide +kernel) (by decide) (fun _ _ h => by rw [h.1]; rfl) (fun _ U U' hal hh h => ⟨h.1, h.2.1.mv hal hh, h.2.2.1, h.2.2.2.1.there hal hh, h.2.2.2.2⟩) (fun r U U' V V' h1 hal h2 h => XT.PureE.mv r U U' V V' h1 hal h2 h) ?_
  intro p e s m args below meth c s₁ X0 hexec hbytes hml hret hlk hnm hown hh0 W hP
  obtain ⟨rfl, hV, hu, s1, rf⟩ := hP
  have v31 := hV.2.2.2
  have hi : i < V.slots.size := (Array.getElem?_eq_some_iff.mp hu).1
  have c1 : Steps p.tables e below (s₁.setTop (entryFrame m #[.ref t, .int (Int32.ofNat i)] 2)) (s₁.setTop (mkF m 0 #[.val (.ref t), .val (.int (Int32.ofNat i))] [])) := entry rfl
  have c2 : Steps p.tables e below (s₁.setTop (entryFrame m #[.ref t, .int (Int32.ofNat i)] 2)) (s₁.setTop (mkF m 3 #[.val (.ref t), .val (.int (Int32.ofNat i))] [.int (Int32.ofNat V.slots.size), .int (Int32.ofNat i)])) := c1.trans (by
    refine XS.iloadN X0.here hexec rfl (hb hbytes d0) rfl ?_
    refine XS.aloadN X0.here hexec rfl (hb hbytes d1) rfl rfl ?_
    refine X0.alen hexec (hV.mv X0.warmed.alike hh0) rfl rfl (hb hbytes d2) ?_
    exact Steps.refl _)
  obtain ⟨v3, T3, X3, E3, g3⟩ := X0.callS hexec (JO.Str_checkIndex.law l (Int32.ofNat i) (Int32.ofNat V.slots.size) fm) hown (wks W (staticW "java/lang/StringLatin1" 9 JO.Str_checkIndex.yN)) (wk W JO.Str_checkIndex.tab) (W := 0) (Nat.le_of_ble_eq_true rfl) (Nat.le_of_ble_eq_true rfl) (Nat.le_refl _) (Nat.le_refl _) (g := (mkF m 3 #[.val (.ref t), .val (.int (Int32.ofNat i))] [.int (Int32.ofNat V.slots.size), .int (Int32.ofNat i)])) rfl (by rw [hml]; rfl) c2 (argsL := [.int (Int32.ofNat i), .int (Int32.ofNat V.slots.size)]) (rest := []) rfl rfl (by show 2 * 0 + 0 ≤ _; decide) (hb hbytes d3) (⟨rfl, rf, s1.there X0.warmed.alike hh0, Int32.ofNat_not_neg (by omega), lt32 v31 hi⟩)
  obtain ⟨rfl, q3⟩ := E3
  have hh3 := q3.trans hh0
  have c4 : Steps p.tables e below (s₁.setTop (entryFrame m #[.ref t, .int (Int32.ofNat i)] 2)) (T3.setTop (mkF m 14 #[.val (.ref t), .val (.int (Int32.ofNat i))] [.int (chr8 u)])) := Steps.trans g3 (by
    refine XS.aloadN X3.here hexec rfl (hb hbytes d6) rfl rfl ?_
    refine XS.iloadN X3.here hexec rfl (hb hbytes d7) rfl ?_
    refine X3.aget hexec (hV.mv X3.warmed.alike hh3) rfl hu rfl rfl (hb hbytes d8) ?_
    refine sipushV X3.here hexec rfl 255 (hb hbytes d9) (by decide) ?_
    refine XS.iand X3.here hexec rfl (hb hbytes d12) rfl ?_
    refine i2c X3.here hexec rfl (hb hbytes d13) rfl ?_
    exact Steps.refl _)
  exact ⟨T3, some (.int (chr8 u)), _, _, _, X3, rfl, rfl, rfl, (fun h => by cases h), ⟨rfl, hh3⟩, fun fs hl => c4.trans (X3.ireturnOut hexec hret (narrow_c _) (Or.inr (Or.inr (Or.inr (Or.inl rfl)))) (hb hbytes d14) hl)⟩
end LChA
end StrChars
namespace StrChars.Road
open Jvm Sem ClassFile Op Lib Jvm.Stand Jvm.Free Jvm.Free.XT
open Jvm.Lib.Cold (StaticIs)
theorem consq {a : Array Value} {s : State} {c : Jvm.Cond} {L : List Jvm.Cond} (h0 : c.before a s = true) (h : ∀ w ∈ L, w.before a s = true) : ∀ w ∈ c :: L, w.before a s = true := fun w hw => (List.mem_cons.mp hw).elim (fun e => e ▸ h0) (h w)
/-- the words of String.length(), either coding -/
abbrev wordsLen : List Jvm.Cond := [.code Len.yN Len.yB 1 (some .int), .initialized ST, .fieldLink ST 9 ST "value" "[B", .fieldLink ST 38 ST "COMPACT_STRINGS" "Z", .fieldLink ST 15 ST "coder" "B", .code Cdr.yN Cdr.yB 1 (some .byte), .methodLink ST 335 Cdr.yN, .declares Cdr.yN, .selects ST Cdr.yN Cdr.yN, .instanceMethod Cdr.yN]
theorem tabLen_of {a : Array Value} {s : State} (h : ∀ w ∈ wordsLen, w.before a s = true) : Len.tab.before a s = true := by
  have hc : Cdr.tab.before a s = true := unparts (wk h (.code Cdr.yN Cdr.yB 1 (some .byte))) (wks h (.initialized Cdr.yN.cls :: Cdr.site))
  have q := consq hc h
  exact unparts (wk q (.code Len.yN Len.yB 1 (some .int))) (wks q (.initialized Len.yN.cls :: Len.site))
theorem movedLen {Z s : State} {a0 args : Array Value} (hZ : Z.Warmed39 s.vm) (hw : ∀ d ∈ wordsLen, d.before a0 Z = true) : ∀ d ∈ wordsLen, d.before args s = true := fun d hd => by
  have q := hw d hd
  have t : ∀ d ∈ wordsLen, d = .arrayClass .byte ∨ (d.onTables && d.keepsFace) = true := by decide +kernel
  rcases t d hd with rfl | t
  · exact RoadKit.mvA hZ q
  · exact RoadKit.mv hZ q t
/-- the bytes of the chars cs, low before high -/
def wideBytes : List Int32 → List Value
  | [] => []
  | c :: cs => .int (lo8 c) :: .int (hi8 c) :: wideBytes cs
theorem wide_lo (d : Value) : ∀ (cs : List Int32) (j : Nat), j < cs.length → (wideBytes cs).getD (2 * j) d = .int (lo8 (cs.getD j 0))
  | [], j, h => absurd h (Nat.not_lt_zero j)
  | c :: cs, 0, _ => rfl
  | c :: cs, j + 1, h => by
    have q := wide_lo d cs j (by simpa using h)
    rw [show 2 * (j + 1) = 2 * j + 1 + 1 from by omega]
    simpa [wideBytes] using q
theorem wide_hi (d : Value) : ∀ (cs : List Int32) (j : Nat), j < cs.length → (wideBytes cs).getD (2 * j + 1) d = .int (hi8 (cs.getD j 0))
  | [], j, h => absurd h (Nat.not_lt_zero j)
  | c :: cs, 0, _ => rfl
  | c :: cs, j + 1, h => by
    have q := wide_hi d cs j (by simpa using h)
    rw [show 2 * (j + 1) + 1 = 2 * j + 1 + 1 + 1 from by omega]
    simpa [wideBytes] using q
theorem low_at (d : Value) (cs : List Int32) (j : Nat) (h : j < cs.length) : (cs.map fun c => Value.int (lo8 c)).getD j d = .int (lo8 (cs.getD j 0)) := by
  simp [List.getD_eq_getElem?_getD, h]
/-- an array of N2 bytes vs codes the chars cs by the coder cd -/
def CodA (cs : List Int32) (cd N2 : Int32) (vs : List Value) : Prop := (cd = 0 ∧ N2 = Int32.ofNat cs.length ∧ vs = (cs.map fun c => Value.int (lo8 c)) ∧ ∀ c ∈ cs, ¬ 255 < c) ∨ (cd = 1 ∧ N2 = Int32.ofNat (2 * cs.length) ∧ vs = wideBytes cs ∧ ∃ c ∈ cs, 255 < c)
theorem CodA.cod {cs : List Int32} {cd N2 : Int32} {vs : List Value} {V : Cell} (h : CodA cs cd N2 vs) (hn : 2 * cs.length < 2 ^ 31) (hs : V.slots.size = N2.toNatClampNeg) (hv : RoadKit.Has V vs (.int 0)) : Cod cd cs.length (fun j => cs.getD j 0) V := by
  rcases h with ⟨rfl, rfl, rfl, h⟩ | ⟨rfl, rfl, rfl, c, hc, hw⟩
  · rw [n32 (by omega)] at hs
    exact Or.inl ⟨rfl, hs, fun j hj => ⟨by rw [hv j (by omega), low_at _ _ _ hj], by
      have e : cs.getD j 0 = cs[j] := by simp [List.getD_eq_getElem?_getD, hj]
      show ¬ 255 < cs.getD j 0
      rw [e]; exact h _ (List.getElem_mem _)⟩⟩
  · rw [n32 (by omega)] at hs
    obtain ⟨j, hj, rfl⟩ := List.getElem_of_mem hc
    exact Or.inr ⟨rfl, hs, fun j hj => ⟨by rw [hv _ (by omega), wide_lo _ _ _ hj], by rw [hv _ (by omega), wide_hi _ _ _ hj]⟩, j, hj, by
      have e : cs.getD j 0 = cs[j] := by simp [List.getD_eq_getElem?_getD, hj]
      show 255 < cs.getD j 0
      rw [e]; exact hw⟩
/-- an object of exactly java/lang/String, its two fields found: as the laws ask it -/
theorem strObj {Z U : State} {a0 : Array Value} {kI : Nat} (wi : (Jvm.Cond.instantiable ST kI).before a0 Z = true) (al : Z.vm.Alike U.vm) {x : Addr} {v0 c0 : Value} (E : RoadKit.Exa Z U.heap x ST) (V : RoadKit.Fld Z U.heap x ST "value" "[B" v0) (C : RoadKit.Fld Z U.heap x ST "coder" "B" c0) :
    ∃ (D : Cell) (fV fC : Field), Blank ST x D U ∧ Found ST "value" "[B" fV U ∧ Found ST "coder" "B" fC U ∧ D.slots[fV.slot]? = some v0 ∧ D.slots[fC.slot]? = some c0 ∧ RoadKit.slotOf Z ST "value" "[B" = fV.slot ∧ RoadKit.slotOf Z ST "coder" "B" = fC.slot := by
  obtain ⟨D, cfV, kV, iV, fV, hD, gV, stV, knV, obV, asV, slV⟩ := V
  obtain ⟨D', cfC, kC, iC, fC, hD', gC, stC, -, -, asC, slC⟩ := C
  cases hD.symm.trans hD'
  obtain ⟨D2, kD, e1, e2, e3, e4, e5⟩ := E
  cases hD.symm.trans e1
  obtain ⟨c2, k2, i1, i2, i3, -⟩ := Cond.instantiable_spec wi
  cases e2.symm.trans i1
  cases e3.symm.trans i2
  obtain ⟨kU, u1, u2⟩ := al.2.2 _ _ e3
  exact ⟨D, fV, fC, ⟨hD, ⟨knV, fun q hq => by rw [hq] at obV; cases obV⟩, by rw [al.findClass]; exact e2, kU, u1, by rw [u2]; exact i3, by rw [u2]; exact e5 i3⟩, ⟨SBG.found_only al ⟨cfV, kV, iV, gV⟩, stV⟩, ⟨SBG.found_only al ⟨cfC, kC, iC, gC⟩, stC⟩, slV, slC, by simp [RoadKit.slotOf, gV], by simp [RoadKit.slotOf, gC]⟩
theorem sta_is {Z U : State} (al : Z.vm.Alike U.vm) {C n d : String} {v : Value} (S : RoadKit.Sta Z U.heap C n d v) : StaticIs U C n d v := by
  obtain ⟨cfS, iS, kS, fS, st, cS, t1, t2, t3, t4, t5, t6, t7⟩ := S
  exact StaticIs.there (s := { Z with heap := U.heap }) ⟨cfS, iS, kS, fS, st, cS, t1, t2, t3, t4, t5, (fun q => by rw [q] at t6; cases t6), t7⟩ al rfl
/-- **length() OF SUCH A STRING** -/
theorem lenW {p : Program} {l : Launch} {e : Env} {R : Room} {s : State} {args : Array Value} {below : List Frame} {len W : Nat} {Z : State} {a0 : Array Value} {h : Heap} (hZ : Z.Warmed39 s.vm) (hw : ∀ d ∈ wordsLen, d.before a0 Z = true) {kI : Nat} (wi : (Jvm.Cond.instantiable ST kI).before a0 Z = true)
    {x t : Addr} {kb : ClassId} {cs : List Int32} {cd N2 z : Int32} {vs : List Value} (E : RoadKit.Exa Z h x ST) (V : RoadKit.Fld Z h x ST "value" "[B" (.ref t)) (C : RoadKit.Fld Z h x ST "coder" "B" (.int cd)) (K : RoadKit.Arv Z h t kb .byte N2 vs (.int 0)) (hc : CodA cs cd N2 vs) (hb : ∀ c ∈ cs, ¬ c < 0 ∧ ¬ (65535 : Int32) < c)
    (S : RoadKit.Sta Z h ST "COMPACT_STRINGS" "Z" (.int z)) (hz : ¬ z = 0) (l2 : cs.length ≤ 4000) (hfr : 2 ≤ R.frames) (hlo : W + 25 ≤ R.locals) :
    Back l R p e below s args (⟨"java/lang/String", "length", "()I"⟩ : MethodName) len W (fun P a => a = #[.ref x] ∧ P.U.heap = h ∧ P.cells + 0 ≤ R.cells ∧ P.slots + 0 ≤ R.slots)
      (fun P _ v B => ∃ L, (v = some (.int (Int32.ofNat cs.length)) ∧ L = [] ∧ B.U.heap = h) ∧ B.locs = P.locs ++ L ∧ B.cells = P.cells + 0 ∧ B.slots = P.slots + 0) := by
  obtain ⟨A, K1, K2, K3, K4, K5, K6⟩ := K
  have hcod := hc.cod (by omega) K3 K5
  intro m meth c P g ig mk a X hg hsize hdg hW hn hp'
  obtain ⟨rfl, rfl, r1, r2⟩ := hp'
  have al : Z.vm.Alike P.U.vm := hZ.alike.trans X.warmed.alike
  obtain ⟨D, fV, fC, hB, F1, F2, g1, g2, -, -⟩ := strObj wi al E V C
  have hx : Txt x t A cd cs.length (fun j => cs.getD j 0) P.U := ⟨⟨_, hB.2.2.1, D, hB.1, rfl, by cases q : D.vm <;> first | rfl | exact absurd q (hB.2.1.2 _)⟩, Has.of hB F1 g1, Has.of hB F2 g2, ⟨K1.1, State.isArrayOf_alike al K1.2.1, K1.2.2, by rcases hcod with ⟨-, q, -⟩ | ⟨-, q, -⟩ <;> omega⟩, hcod, fun j hj => by
    have e : cs.getD j 0 = cs[j] := by simp [List.getD_eq_getElem?_getD, hj]
    show ¬ cs.getD j 0 < 0 ∧ ¬ 65535 < cs.getD j 0
    rw [e]; exact hb _ (List.getElem_mem _)⟩
  obtain ⟨v, B, X', ⟨⟨hv, hh⟩, hl, hk, hs⟩, st⟩ := Len.pays x t A cd cs.length (fun j => cs.getD j 0) z (tabLen_of (movedLen hZ hw)) hfr hlo m meth c P g ig mk _ X hg hsize hdg hW hn ⟨r1, r2, rfl, hx, sta_is al S, hz⟩
  exact ⟨v, B, X', ⟨[], ⟨hv, rfl, hh⟩, hl, hk, hs⟩, st⟩
end StrChars.Road
namespace StrChars.Road
open Jvm Sem ClassFile Op Lib Jvm.Stand Jvm.Free Jvm.Free.XT
open Jvm.Lib.Cold (StaticIs)
/-- the road's facts of a String, as the laws ask it -/
theorem txt_of {Z U : State} {a0 : Array Value} {kI : Nat} (wi : (Jvm.Cond.instantiable ST kI).before a0 Z = true) (al : Z.vm.Alike U.vm) {x t : Addr} {kb : ClassId} {cs : List Int32} {cd N2 : Int32} {vs : List Value} (E : RoadKit.Exa Z U.heap x ST) (V : RoadKit.Fld Z U.heap x ST "value" "[B" (.ref t)) (C : RoadKit.Fld Z U.heap x ST "coder" "B" (.int cd)) (K : RoadKit.Arv Z U.heap t kb .byte N2 vs (.int 0)) (hc : CodA cs cd N2 vs) (hb : ∀ c ∈ cs, ¬ c < 0 ∧ ¬ (65535 : Int32) < c) (l2 : cs.length ≤ 4000) :
    ∃ A, Txt x t A cd cs.length (fun j => cs.getD j 0) U := by
  obtain ⟨A, K1, K2, K3, K4, K5, K6⟩ := K
  have hcod := hc.cod (by omega) K3 K5
  obtain ⟨D, fV, fC, hB, F1, F2, g1, g2, -, -⟩ := strObj wi al E V C
  exact ⟨A, ⟨_, hB.2.2.1, D, hB.1, rfl, by cases q : D.vm <;> first | rfl | exact absurd q (hB.2.1.2 _)⟩, Has.of hB F1 g1, Has.of hB F2 g2, ⟨K1.1, State.isArrayOf_alike al K1.2.1, K1.2.2, by rcases hcod with ⟨-, q, -⟩ | ⟨-, q, -⟩ <;> omega⟩, hcod, fun j hj => by
    have e : cs.getD j 0 = cs[j] := by simp [List.getD_eq_getElem?_getD, hj]
    show ¬ cs.getD j 0 < 0 ∧ ¬ 65535 < cs.getD j 0
    rw [e]; exact hb _ (List.getElem_mem _)⟩
end StrChars.Road
namespace StrChars
open Jvm Sem ClassFile Op Lib Jvm.Stand Jvm.Free.XT Jvm.Free.ALB Jvm.Free.JM Jvm.Free
open Jvm.Lib.Cold (StaticIs)
namespace ChN
def yN : MethodName := ⟨"java/lang/String", "charAt", "(I)C"⟩
abbrev yB : ByteArray := jdk_42_method_56_code
theorem d0 : decode yB 0 = .ok (.aload_n 0, 1) := by decide +kernel
theorem d1 : decode yB 1 = .ok (.invokevirtual 492, 3) := by decide +kernel
theorem d4 : decode yB 4 = .ok (.ifCond (.eq) 12, 3) := by decide +kernel
theorem d7 : decode yB 7 = .ok (.aload_n 0, 1) := by decide +kernel
theorem d8 : decode yB 8 = .ok (.getfield 9, 3) := by decide +kernel
theorem d11 : decode yB 11 = .ok (.iload_n 1, 1) := by decide +kernel
theorem d12 : decode yB 12 = .ok (.invokestatic 495, 3) := by decide +kernel
theorem d15 : decode yB 15 = .ok (.ireturn, 1) := by decide +kernel
def site : List Cond := [.fieldLink "java/lang/String" 9 "java/lang/String" "value" "[B", IsL.tab, LChA.tab] ++ virtW "java/lang/String" 492 "java/lang/String" IsL.yN IsL.yN ++ staticW "java/lang/String" 495 LChA.yN
def tab : Cond := tabOf yN yB 2 (some .char) site
def P (x t : Addr) (V : Cell) (n : Nat) (f : Nat → Int32) (z : Int32) (fm : Value) (i : Nat) (args : Array Value) (s : State) : Prop := args = #[.ref x, .int (Int32.ofNat i)] ∧ Txt x t V 0 n f s ∧ i < n ∧ StaticIs s "java/lang/String" "COMPACT_STRINGS" "Z" (.int z) ∧ ¬ z = 0 ∧ StaticIs s "jdk/internal/util/Preconditions" "SIOOBE_FORMATTER" "Ljava/util/function/BiFunction;" fm ∧ fm.isRef = true
def E (f : Nat → Int32) (i : Nat) (r : Option Value) (s u : State) : Prop := XT.PureE (some (.int (f i))) r s u
/-- charAt(i) of a Latin-1 String of n chars, i < n: f i -/
theorem law (l : Launch) (x t : Addr) (V : Cell) (n : Nat) (f : Nat → Int32) (z : Int32) (fm : Value) (i : Nat) : Law l yN 2 1 3 40 yB 2 (some .char) site (P x t V n f z fm i) (E f i) [] 0 0 := by
  refine Law.of_walk (plainFor_of_name (by decide +kernel)) (by decide +kernel) (by decide +kernel) (by decide) (fun _ _ h => by rw [h.1]; rfl) (fun _ U U' hal hh h => ⟨h.1, h.2.1.mv hal hh, h.2.2.1, h.2.2.2.1.there hal hh, h.2.2.2.2.1, h.2.2.2.2.2.1.there hal hh, h.2.2.2.2.2.2⟩) (fun r U U' V V' h1 hal h2 h => XT.PureE.mv r U U' V V' h1 hal h2 h) ?_
  intro p e s m args below meth c s₁ X0 hexec hbytes hml hret hlk hnm hown hh0 W hP
  obtain ⟨rfl, hx, hi, s1, hz, s3, rf⟩ := hP
  have v31 := hx.2.2.2.1.2.2.2
  have hr := hx.2.2.2.2.2 i hi
  have hx0 := hx.mv X0.warmed.alike hh0
  have c1 : Steps p.tables e below (s₁.setTop (entryFrame m #[.ref x, .int (Int32.ofNat i)] 2)) (s₁.setTop (mkF m 1 #[.val (.ref x), .val (.int (Int32.ofNat i))] [.ref x])) := Steps.trans (entry rfl) (by
    show Steps p.tables e below (s₁.setTop (mkF m 0 #[.val (.ref x), .val (.int (Int32.ofNat i))] [])) _
    refine XS.aloadN X0.here hexec rfl (hb hbytes d0) rfl rfl ?_
    exact Steps.refl _)
  obtain ⟨v2, T2, X2, E2, g2⟩ := X0.callV hexec (IsL.law l x 0 z) hown (wks W (virtW "java/lang/String" 492 "java/lang/String" IsL.yN IsL.yN)) rfl (by decide) (wk W IsL.tab) (W := 0) (Nat.le_of_ble_eq_true rfl) (Nat.le_of_ble_eq_true rfl) (Nat.le_refl _) (Nat.le_refl _) (hx0.1.fc X0.warmed.alike) hx0.1.is (g := (mkF m 1 #[.val (.ref x), .val (.int (Int32.ofNat i))] [.ref x])) rfl (by rw [hml]; rfl) c1 (argsL := []) (rest := []) rfl rfl (by show 2 * 0 + 0 ≤ _; decide) (hb hbytes d1) (⟨rfl, hx0.2.2.1, hx.2.2.2.2.1.cd, s1.there X0.warmed.alike hh0, hz⟩)
  obtain ⟨rfl, q2⟩ := E2
  have hh2 := q2.trans hh0
  have hx2 := hx.mv X2.warmed.alike hh2
  obtain ⟨-, k1, k2⟩ | ⟨k0, -⟩ := hx.2.2.2.2.1
  · have c3 : Steps p.tables e below (s₁.setTop (entryFrame m #[.ref x, .int (Int32.ofNat i)] 2)) (T2.setTop (mkF m 8 #[.val (.ref x), .val (.int (Int32.ofNat i))] [.ref x])) := Steps.trans g2 (by
      refine XS.ifNo X2.here hexec rfl (hb hbytes d4) rfl (i0_eq_f (by decide)) ?_
      refine XS.aloadN X2.here hexec rfl (hb hbytes d7) rfl rfl ?_
      exact Steps.refl _)
    obtain ⟨T4, X4, q4, st4⟩ := X2.hget hexec hown (wk W (.fieldLink "java/lang/String" 9 "java/lang/String" "value" "[B")) hx2.2.1 (g := (mkF m 8 #[.val (.ref x), .val (.int (Int32.ofNat i))] [.ref x])) rfl (rest := []) rfl (hb hbytes d8)
    have hh4 := q4.trans hh2
    have c5 : Steps p.tables e below (s₁.setTop (entryFrame m #[.ref x, .int (Int32.ofNat i)] 2)) (T4.setTop (mkF m 12 #[.val (.ref x), .val (.int (Int32.ofNat i))] [.int (Int32.ofNat i), .ref t])) := (c3.trans (st4 _ (Steps.refl _))).trans (by
      refine XS.iloadN X4.here hexec rfl (hb hbytes d11) rfl ?_
      exact Steps.refl _)
    obtain ⟨v6, T6, X6, E6, g6⟩ := X4.callS hexec (LChA.law l t V i (lo8 (f i)) fm) hown (wks W (staticW "java/lang/String" 495 LChA.yN)) (wk W LChA.tab) (W := 0) (Nat.le_of_ble_eq_true rfl) (Nat.le_of_ble_eq_true rfl) (Nat.le_refl _) (Nat.le_refl _) (g := (mkF m 12 #[.val (.ref x), .val (.int (Int32.ofNat i))] [.int (Int32.ofNat i), .ref t])) rfl (by rw [hml]; rfl) c5 (argsL := [.ref t, .int (Int32.ofNat i)]) (rest := []) rfl rfl (by show 2 * 0 + 0 ≤ _; decide) (hb hbytes d12) (⟨rfl, hx.2.2.2.1.mv X4.warmed.alike hh4, (k2 i hi).1, s3.there X4.warmed.alike hh4, rf⟩)
    obtain ⟨rfl, q6⟩ := E6
    rw [chr8_lo8 hr.1 (k2 i hi).2] at g6
    exact ⟨T6, some (.int (f i)), _, _, _, X6, rfl, rfl, rfl, (fun h => by cases h), ⟨rfl, q6.trans hh4⟩, fun fs hl => Steps.trans g6 (X6.ireturnOut hexec hret (narrow_ch hr.1 hr.2) (Or.inr (Or.inr (Or.inr (Or.inl rfl)))) (hb hbytes d15) hl)⟩
  · exact absurd k0 (by decide)
theorem pays {l : Launch} {R : Room} {p : Program} {e : Env} {below : List Frame} {s : State} {sargs : Array Value} {len W : Nat} (x t : Addr) (V : Cell) (n : Nat) (f : Nat → Int32) (z : Int32) (fm : Value) (i : Nat) (htab : tab.before sargs s = true) (hfr : 4 ≤ R.frames) (hlo : W + 53 ≤ R.locals) :
    Back l R p e below s sargs yN len W (fun A₁ a₁ => A₁.cells + 0 ≤ R.cells ∧ A₁.slots + 0 ≤ R.slots ∧ P x t V n f z fm i a₁ A₁.U) (fun A₁ _ v₁ B₁ => E f i v₁ A₁.U B₁.U ∧ B₁.locs = A₁.locs ++ [] ∧ B₁.cells = A₁.cells + 0 ∧ B₁.slots = A₁.slots + 0) :=
  (law l x t V n f z fm i).pays htab hfr (by omega)
end ChN
end StrChars
namespace StrChars.Road
open Jvm Sem ClassFile Op Lib Jvm.Stand Jvm.Free Jvm.Free.XT
open Jvm.Lib.Cold (StaticIs)
/-- the words of String.charAt(int), the Latin-1 road alone -/
abbrev wordsChN : List Jvm.Cond := [.code ChN.yN ChN.yB 2 (some .char), .initialized ST, .fieldLink ST 9 ST "value" "[B", .fieldLink ST 38 ST "COMPACT_STRINGS" "Z", .fieldLink ST 15 ST "coder" "B", .code IsL.yN IsL.yB 1 (some .boolean), .methodLink ST 492 IsL.yN, .declares IsL.yN, .selects ST IsL.yN IsL.yN, .instanceMethod IsL.yN,
  .methodLink ST 495 LChA.yN, .static LChA.yN, .code LChA.yN LChA.yB 2 (some .char), .initialized "java/lang/StringLatin1", .methodLink "java/lang/StringLatin1" 9 JO.Str_checkIndex.yN, .static JO.Str_checkIndex.yN, .code JO.Str_checkIndex.yN JO.Str_checkIndex.yB 2 none,
  .fieldLink ST 1053 "jdk/internal/util/Preconditions" "SIOOBE_FORMATTER" "Ljava/util/function/BiFunction;", .methodLink ST 1059 JC.PreCheck.yN, .static JC.PreCheck.yN, .code JC.PreCheck.yN JC.PreCheck.yB 3 (some .int), .initialized "jdk/internal/util/Preconditions"]
theorem tabChN_of {a : Array Value} {s : State} (h : ∀ w ∈ wordsChN, w.before a s = true) : ChN.tab.before a s = true := by
  have hp : JC.PreCheck.tab.before a s = true := unparts (wk h (.code JC.PreCheck.yN JC.PreCheck.yB 3 (some .int))) (wks h (.initialized JC.PreCheck.yN.cls :: JC.PreCheck.site))
  have qk := consq hp h
  have hk : JO.Str_checkIndex.tab.before a s = true := unparts (wk qk (.code JO.Str_checkIndex.yN JO.Str_checkIndex.yB 2 none)) (wks qk (.initialized JO.Str_checkIndex.yN.cls :: JO.Str_checkIndex.site))
  have ql := consq hk h
  have hl : LChA.tab.before a s = true := unparts (wk ql (.code LChA.yN LChA.yB 2 (some .char))) (wks ql (.initialized LChA.yN.cls :: LChA.site))
  have hi : IsL.tab.before a s = true := unparts (wk h (.code IsL.yN IsL.yB 1 (some .boolean))) (wks h (.initialized IsL.yN.cls :: IsL.site))
  have q := consq hi (consq hl h)
  exact unparts (wk q (.code ChN.yN ChN.yB 2 (some .char))) (wks q (.initialized ChN.yN.cls :: ChN.site))
theorem movedChN {Z s : State} {a0 args : Array Value} (hZ : Z.Warmed39 s.vm) (hw : ∀ d ∈ wordsChN, d.before a0 Z = true) : ∀ d ∈ wordsChN, d.before args s = true := fun d hd => by
  have t : ∀ d ∈ wordsChN, (d.onTables && d.keepsFace) = true := by decide +kernel
  exact RoadKit.mv hZ (hw d hd) (t d hd)
/-- **charAt(i) OF A LATIN-1 STRING**, i < n: the char -/
theorem chN {p : Program} {l : Launch} {e : Env} {R : Room} {s : State} {args : Array Value} {below : List Frame} {len W : Nat} {Z : State} {a0 : Array Value} {h : Heap} (hZ : Z.Warmed39 s.vm) (hw : ∀ d ∈ wordsChN, d.before a0 Z = true) {kI : Nat} (wi : (Jvm.Cond.instantiable ST kI).before a0 Z = true)
    {x t : Addr} {kb : ClassId} {cs : List Int32} {N2 z : Int32} {vs : List Value} {fm : Value} {i : Nat} {j : Int32} (E : RoadKit.Exa Z h x ST) (V : RoadKit.Fld Z h x ST "value" "[B" (.ref t)) (C : RoadKit.Fld Z h x ST "coder" "B" (.int 0)) (K : RoadKit.Arv Z h t kb .byte N2 vs (.int 0)) (hc : CodA cs 0 N2 vs) (hb : ∀ c ∈ cs, ¬ c < 0 ∧ ¬ (65535 : Int32) < c)
    (S : RoadKit.Sta Z h ST "COMPACT_STRINGS" "Z" (.int z)) (hz : ¬ z = 0) (F : RoadKit.Sta Z h "jdk/internal/util/Preconditions" "SIOOBE_FORMATTER" "Ljava/util/function/BiFunction;" fm) (rf : fm.isRef = true) (l2 : cs.length ≤ 4000) (hi : i < cs.length) (hj : j = Int32.ofNat i) (hfr : 4 ≤ R.frames) (hlo : W + 53 ≤ R.locals) :
    Back l R p e below s args (⟨"java/lang/String", "charAt", "(I)C"⟩ : MethodName) len W (fun P a => a = #[.ref x, .int j] ∧ P.U.heap = h ∧ P.cells + 0 ≤ R.cells ∧ P.slots + 0 ≤ R.slots)
      (fun P _ v B => ∃ L, (v = some (.int (cs.getD i 0)) ∧ L = [] ∧ B.U.heap = h) ∧ B.locs = P.locs ++ L ∧ B.cells = P.cells + 0 ∧ B.slots = P.slots + 0) := by
  subst hj
  intro m meth c P g ig mk a X hg hsize hdg hW hn hp'
  obtain ⟨rfl, rfl, r1, r2⟩ := hp'
  have al : Z.vm.Alike P.U.vm := hZ.alike.trans X.warmed.alike
  obtain ⟨A, hx⟩ := txt_of wi al E V C K hc hb l2
  obtain ⟨v, B, X', ⟨⟨hv, hh⟩, hl, hk, hs⟩, st⟩ := ChN.pays x t A cs.length (fun j => cs.getD j 0) z fm i (tabChN_of (movedChN hZ hw)) hfr hlo m meth c P g ig mk _ X hg hsize hdg hW hn ⟨r1, r2, rfl, hx, hi, sta_is al S, hz, sta_is al F, rf⟩
  exact ⟨v, B, X', ⟨[], ⟨hv, rfl, hh⟩, hl, hk, hs⟩, st⟩
/-- what backV says of its String, as the contracts of this text ask it: cs's low bytes, coder 0 -/
theorem codOf {cs : List Int32} {n : Nat} (hn : cs.length = n) (hb : ∀ c ∈ cs, ¬ 255 < c) : CodA cs 0 (Int32.ofNat n) ((cs.map lo8).map Value.int) := Or.inl ⟨rfl, by rw [hn], by simp [List.map_map, Function.comp_def], hb⟩
end StrChars.Road
end Jvm.Pilot.@@N@@
namespace Jvm.Pilot.@@N@@
open Jvm Jvm.ClassFile Sem Op Lib Jvm.Free Jvm.Stand Jvm.LawKit Jvm.RoadKit Bundle Jvm.Pilot.@@N@@.Jvm.D
theorem own_w {Z : State} {a0 : Array Value} (hw : ∀ d ∈ tables_1, d.before a0 Z = true) (i : Nat) {d : Jvm.Cond} (h : tables_1[i]? = some d) : d.before a0 Z = true := hw _ (List.mem_of_getElem? h)
section OwnKit
variable {p : Program} {l : Launch} {e : Env} {R : Room} {s : State} {m : MethodId} {args : Array Value} {below : List Frame} {meth : Method} {c : Code} {T T' : State} {locs : List Loc} {cells slots : Nat} {Q : Option Value → Heap → List Loc → Prop} {k n : Nat} {Fin : Outcome → State → Prop} {Z : State} {a0 : Array Value} {h : Heap} {pc : Nat} {Ls : Array Slot} {rest : List Value}
/-- from this frame on the body ends as Fin says -/
def own_Go (p : Program) (e : Env) (below : List Frame) (Fin : Outcome → State → Prop) (T : State) (f : JFrame) : Prop :=
  ∃ s₂ o, Steps p.tables e below (T.setTop f) s₂ ∧ s₂.status = .running ∧ Ended s₂ below o ∧ Fin o s₂
/-- it returned, as Q says; the frame as ever -/
def own_Fin (s : State) (Q : Option Value → Heap → List Loc → Prop) (k n : Nat) (o : Outcome) (t : State) : Prop := ∃ v L, o = .returned v ∧ Q v t.heap L ∧ FrameEnd s o t L k n
/-- it returned, as Q says; String constants may have been resolved -/
def own_FinW (s : State) (Q : Option Value → Heap → List Loc → Prop) (k n : Nat) (o : Outcome) (t : State) : Prop := ∃ v L, o = .returned v ∧ Q v t.heap L ∧ ReturnedEndW s o t L k n
theorem own_by {f f' : JFrame} (st : ∀ t, Steps p.tables e below (T'.setTop f') t → Steps p.tables e below (T.setTop f) t) (g : own_Go p e below Fin T' f') : own_Go p e below Fin T f := by
  obtain ⟨s₂, o, h, r⟩ := g
  exact ⟨s₂, o, st _ h, r⟩
theorem own_start {f f' : JFrame} (q : f = f') (g : own_Go p e below (own_Fin s Q k n) T f') : ∃ s₂ o, Steps p.tables e below (T.setTop f) s₂ ∧ s₂.status = .running ∧ Ended s₂ below o ∧ ∃ v L, o = .returned v ∧ Q v s₂.heap L ∧ FrameEnd s o s₂ L k n := by
  subst q; exact g
theorem own_startW {f f' : JFrame} (q : f = f') (g : own_Go p e below (own_FinW s Q k n) T f') : ∃ s₂ o, Steps p.tables e below (T.setTop f) s₂ ∧ s₂.status = .running ∧ Ended s₂ below o ∧ ∃ v L, o = .returned v ∧ Q v s₂.heap L ∧ ReturnedEndW s o s₂ L k n := by
  subst q; exact g
theorem own_ret (X : Stand p l e R s m args below meth c T locs cells slots) (hx : p.tables.exec = Jvm.exec) (hlk : meth.locks = false) {w : Value} {t : FieldType} {i : Instr} (hret : meth.sig.returnType = some t)
    (hi : (i = .ireturn ∧ (t = .int ∨ t = .boolean ∨ t = .byte ∨ t = .char ∨ t = .short) ∧ ∃ z, w = .int z) ∨ (i = .lreturn ∧ t = .long ∧ ∃ z, w = .long z) ∨ (i = .dreturn ∧ t = .double ∧ ∃ z, w = .double z) ∨ (i = .freturn ∧ t = .float ∧ ∃ z, w = .float z) ∨ (i = .areturn ∧ t.isReference = true ∧ w.isRef = true))
    (hn : narrow t w = w) (hd : decode c.code pc = .ok (i, 1)) (eT : T.heap = h) (hk : cells ≤ k) (hs : slots ≤ n) (q : Q (some w) h locs) : own_Go p e below (own_Fin s Q k n) T (mkF m pc Ls (w :: rest)) := by
  obtain ⟨fs, hr, hrun, hended, hW, hsame⟩ := X.leave (v := some w) (fun h => by rw [hret] at h; cases h) hlk
  refine ⟨_, _, retOut X hx hret hn hi hd hr, hrun, hended, _, _, rfl, ?_, ⟨_, rfl⟩, hW, hsame.mono hk hs⟩
  show Q _ T.heap _
  rw [eT]; exact q
theorem own_retI (X : Stand p l e R s m args below meth c T locs cells slots) (hx : p.tables.exec = Jvm.exec) (hlk : meth.locks = false) {z : Int32} (hret : meth.sig.returnType = some .int) (hd : decode c.code pc = .ok (.ireturn, 1)) (eT : T.heap = h) (hk : cells ≤ k) (hs : slots ≤ n) (q : Q (some (.int z)) h locs) : own_Go p e below (own_Fin s Q k n) T (mkF m pc Ls (.int z :: rest)) :=
  own_ret X hx hlk hret (Or.inl ⟨rfl, Or.inl rfl, z, rfl⟩) rfl hd eT hk hs q
theorem own_retZ (X : Stand p l e R s m args below meth c T locs cells slots) (hx : p.tables.exec = Jvm.exec) (hlk : meth.locks = false) {z : Int32} (hret : meth.sig.returnType = some .boolean) (hz : z = 0 ∨ z = 1) (hd : decode c.code pc = .ok (.ireturn, 1)) (eT : T.heap = h) (hk : cells ≤ k) (hs : slots ≤ n) (q : Q (some (.int z)) h locs) : own_Go p e below (own_Fin s Q k n) T (mkF m pc Ls (.int z :: rest)) :=
  own_ret X hx hlk hret (Or.inl ⟨rfl, Or.inr (Or.inl rfl), z, rfl⟩) (by rcases hz with rfl | rfl <;> rfl) hd eT hk hs q
theorem own_retJ (X : Stand p l e R s m args below meth c T locs cells slots) (hx : p.tables.exec = Jvm.exec) (hlk : meth.locks = false) {z : Int64} (hret : meth.sig.returnType = some .long) (hd : decode c.code pc = .ok (.lreturn, 1)) (eT : T.heap = h) (hk : cells ≤ k) (hs : slots ≤ n) (q : Q (some (.long z)) h locs) : own_Go p e below (own_Fin s Q k n) T (mkF m pc Ls (.long z :: rest)) :=
  own_ret X hx hlk hret (Or.inr (Or.inl ⟨rfl, rfl, z, rfl⟩)) rfl hd eT hk hs q
theorem own_retR (X : Stand p l e R s m args below meth c T locs cells slots) (hx : p.tables.exec = Jvm.exec) (hlk : meth.locks = false) {w : Value} {t : FieldType} (hret : meth.sig.returnType = some t) (ht : t.isReference = true) (hw : w.isRef = true) (hn : narrow t w = w) (hd : decode c.code pc = .ok (.areturn, 1)) (eT : T.heap = h) (hk : cells ≤ k) (hs : slots ≤ n) (q : Q (some w) h locs) : own_Go p e below (own_Fin s Q k n) T (mkF m pc Ls (w :: rest)) :=
  own_ret X hx hlk hret (Or.inr (Or.inr (Or.inr (Or.inr ⟨rfl, ht, hw⟩)))) hn hd eT hk hs q
theorem own_retV (X : Stand p l e R s m args below meth c T locs cells slots) (hx : p.tables.exec = Jvm.exec) (hlk : meth.locks = false) (hret : meth.sig.returnType = none) (hd : decode c.code pc = .ok (.return_, 1)) (eT : T.heap = h) (hk : cells ≤ k) (hs : slots ≤ n) (q : Q none h locs) : own_Go p e below (own_Fin s Q k n) T (mkF m pc Ls []) := by
  obtain ⟨fs, hr, hrun, hended, hW, hsame⟩ := X.leave (v := none) (fun _ => rfl) hlk
  refine ⟨_, _, X.returnOut hx hret hd hr, hrun, hended, _, _, rfl, ?_, ⟨_, rfl⟩, hW, hsame.mono hk hs⟩
  show Q _ T.heap _
  rw [eT]; exact q
/-- a conditional branch as a plain comparison -/
def own_cnd : ClassFile.Cond → Int32 → Int32 → Prop
  | .eq, x, y => x = y
  | .ne, x, y => ¬ x = y
  | .lt, x, y => x < y
  | .ge, x, y => ¬ x < y
  | .gt, x, y => y < x
  | .le, x, y => ¬ y < x
def own_neg : ClassFile.Cond → ClassFile.Cond
  | .eq => .ne
  | .ne => .eq
  | .lt => .ge
  | .ge => .lt
  | .gt => .le
  | .le => .gt
theorem own_holds (cd : ClassFile.Cond) (x y : Int32) : (if_icmp.holds cd x y = true ∧ own_cnd cd x y) ∨ (if_icmp.holds cd x y = false ∧ own_cnd (own_neg cd) x y) := by
  cases cd
  case eq => by_cases q : x = y; · exact Or.inl ⟨(teq q).1, q⟩
             · exact Or.inr ⟨(feq q).1, q⟩
  case ne => by_cases q : x = y; · exact Or.inr ⟨(teq q).2, q⟩
             · exact Or.inl ⟨(feq q).2, q⟩
  case lt => by_cases q : x < y; · exact Or.inl ⟨(tlt q).1, q⟩
             · exact Or.inr ⟨(flt q).1, q⟩
  case ge => by_cases q : x < y; · exact Or.inr ⟨(tlt q).2.1, q⟩
             · exact Or.inl ⟨(flt q).2.1, q⟩
  case gt => by_cases q : y < x; · exact Or.inl ⟨(tlt q).2.2.1, q⟩
             · exact Or.inr ⟨(flt q).2.2.1, q⟩
  case le => by_cases q : y < x; · exact Or.inr ⟨(tlt q).2.2.2, q⟩
             · exact Or.inl ⟨(flt q).2.2.2, q⟩
theorem own_icmp (X : Stand p l e R s m args below meth c T locs cells slots) (hx : p.tables.exec = Jvm.exec) {cd : ClassFile.Cond} {x y : Int32} {o : Int} (pc' : Nat) (hd : decode c.code pc = .ok (.if_icmp cd o, 3)) (ho : 0 ≤ (pc : Int) + o) (hp : ((pc : Int) + o).toNat = pc')
    (g1 : own_cnd cd x y → own_Go p e below Fin T (mkF m pc' Ls rest)) (g2 : own_cnd (own_neg cd) x y → own_Go p e below Fin T (mkF m (pc + 3) Ls rest)) : own_Go p e below Fin T (mkF m pc Ls (.int y :: .int x :: rest)) := by
  rcases own_holds cd x y with ⟨q, q'⟩ | ⟨q, q'⟩
  · exact own_by (fun t kk => XS.icmpYes X.here hx rfl (pc0 := pc) (pc' := pc') rfl hd rfl q ho hp kk) (g1 q')
  · exact own_by (fun t kk => XS.icmpNo X.here hx rfl hd rfl q kk) (g2 q')
theorem own_if (X : Stand p l e R s m args below meth c T locs cells slots) (hx : p.tables.exec = Jvm.exec) {cd : ClassFile.Cond} {x : Int32} {o : Int} (pc' : Nat) (hd : decode c.code pc = .ok (.ifCond cd o, 3)) (ho : 0 ≤ (pc : Int) + o) (hp : ((pc : Int) + o).toNat = pc')
    (g1 : own_cnd cd x 0 → own_Go p e below Fin T (mkF m pc' Ls rest)) (g2 : own_cnd (own_neg cd) x 0 → own_Go p e below Fin T (mkF m (pc + 3) Ls rest)) : own_Go p e below Fin T (mkF m pc Ls (.int x :: rest)) := by
  rcases own_holds cd x 0 with ⟨q, q'⟩ | ⟨q, q'⟩
  · exact own_by (fun t kk => XS.ifYes X.here hx rfl (pc0 := pc) (pc' := pc') rfl hd rfl ((if0 _ _).trans q) ho hp kk) (g1 q')
  · exact own_by (fun t kk => XS.ifNo X.here hx rfl hd rfl ((if0 _ _).trans q) kk) (g2 q')
/-- a static call by the callee's contract -/
theorem own_callS (X : Stand p l e R s m args below meth c T locs cells slots) (hx : p.tables.exec = Jvm.exec) (hZ : Z.Warmed39 s.vm) {own : String} {index : Nat} {y : MethodName} {bytes : ByteArray} {maxL W : Nat} {ret : Option FieldType} {rm : Room} {Qc : Option Value → Heap → List Loc → Prop}
    (hown : s.vm.findClass own = some m.cls) (w1 : (Cond.methodLink own index y).before a0 Z = true) (w2 : (Cond.static y).before a0 Z = true) (w3 : (Cond.initialized y.cls).before a0 Z = true) (w4 : (Cond.code y bytes maxL ret).before a0 Z = true)
    (hy : y.cls ≠ "java/lang/invoke/MethodHandle" ∧ y.cls ≠ "java/lang/invoke/VarHandle") (hml : Ls.size = c.maxLocals) {argsL : List Value} {ps : List FieldType} {rt : Option FieldType} (pd : parseMethodDescriptor y.desc = some ⟨ps, rt⟩) (hlen : argsL.length = ps.length)
    (hM : MetFree l y (head1 [Cond.code y bytes maxL ret] rm) (fun a U => a = argsL.toArray ∧ Z.Warmed39 U.vm ∧ U.heap = h) (fun _ _ _ _ _ => True) (fun _ U o U' => ∃ v L, o = .returned v ∧ Qc v U'.heap L ∧ FrameEnd U o U' L rm.cells rm.slots))
    (hf : rm.frames + 1 ≤ R.frames) (hl : W + (maxL + 11) + rm.locals ≤ R.locals) (hW : (rest.map fun v => v.category).sum ≤ W) (hc : cells + rm.cells ≤ R.cells) (hs : slots + rm.slots ≤ R.slots) (eT : T.heap = h) {st : List Value} (hst : st = argsL.reverse ++ rest) (hd : decode c.code pc = .ok (.invokestatic index, 3))
    (g : ∀ (v : Option Value) (T' : State) (L : List Loc), Stand p l e R s m args below meth c T' (locs ++ L) (cells + rm.cells) (slots + rm.slots) → Qc v T'.heap L → own_Go p e below Fin T' (mkF m (pc + 3) Ls (v.toList ++ rest))) :
    own_Go p e below Fin T (mkF m pc Ls st) := by
  subst hst
  obtain ⟨v, _, ⟨T2, L2, k2, n2⟩, -, X2, ⟨Lc2, hQ2, l2, y2, z2⟩, st2⟩ := Jvm.LawKit.callS X hx (y := y) hown (mvT hZ w1) (mvT hZ w2) (mvT hZ w3) (mvT hZ w4) hy (backOf (W := W) hM hZ w4 w3 hf hl) (g := (mkF m pc Ls (argsL.reverse ++ rest))) rfl hml (argsL := argsL) (rest := rest) (lenOf pd hlen) rfl (by show 2 * 0 + _ ≤ _; omega) hd (fun _ _ => ⟨rfl, eT, hc, hs⟩)
  dsimp only [Pt.U, Pt.locs, Pt.cells, Pt.slots] at X2 l2 y2 z2 st2 hQ2
  subst l2 y2 z2
  exact own_by (fun t kk => st2 _ kk) (g v T2 Lc2 X2 hQ2)
/-- a constructor by its contract -/
theorem own_callC (X : Stand p l e R s m args below meth c T locs cells slots) (hx : p.tables.exec = Jvm.exec) (hZ : Z.Warmed39 s.vm) {own : String} {index : Nat} {y : MethodName} {bytes : ByteArray} {maxL W : Nat} {rm : Room} {Qc : Option Value → Heap → List Loc → Prop} (hy1 : y.name = "<init>")
    (hown : s.vm.findClass own = some m.cls) (w1 : (Cond.methodLink own index y).before a0 Z = true) (w2 : (Cond.instanceMethod y).before a0 Z = true) (w3 : (Cond.initialized y.cls).before a0 Z = true) (w4 : (Cond.code y bytes maxL none).before a0 Z = true)
    (hy : y.cls ≠ "java/lang/invoke/MethodHandle" ∧ y.cls ≠ "java/lang/invoke/VarHandle") (hml : Ls.size = c.maxLocals) {a : Addr} {argsL : List Value} {ps : List FieldType} {rt : Option FieldType} (pd : parseMethodDescriptor y.desc = some ⟨ps, rt⟩) (hlen : argsL.length = ps.length)
    (hM : MetFree l y (head1 [Cond.code y bytes maxL none] rm) (fun b U => b = (.ref a :: argsL).toArray ∧ Z.Warmed39 U.vm ∧ U.heap = h) (fun _ _ _ _ _ => True) (fun _ U o U' => ∃ v L, o = .returned v ∧ Qc v U'.heap L ∧ FrameEnd U o U' L rm.cells rm.slots))
    (hf : rm.frames + 1 ≤ R.frames) (hl : W + (maxL + 11) + rm.locals ≤ R.locals) (hW : (rest.map fun v => v.category).sum ≤ W) (hc : cells + rm.cells ≤ R.cells) (hs : slots + rm.slots ≤ R.slots) (eT : T.heap = h) {st : List Value} (hst : st = argsL.reverse ++ .ref a :: rest) (hd : decode c.code pc = .ok (.invokespecial index, 3))
    (g : ∀ (v : Option Value) (T' : State) (L : List Loc), Stand p l e R s m args below meth c T' (locs ++ L) (cells + rm.cells) (slots + rm.slots) → Qc v T'.heap L → own_Go p e below Fin T' (mkF m (pc + 3) Ls (v.toList ++ rest))) :
    own_Go p e below Fin T (mkF m pc Ls st) := by
  subst hst
  obtain ⟨v, _, ⟨T2, L2, k2, n2⟩, -, X2, ⟨Lc2, hQ2, l2, y2, z2⟩, st2⟩ := X.specialBack hx (y := y) hy1 hown (mvT hZ w1) (mvT hZ w2) (mvT hZ w4) hy (backOf (W := W) hM hZ w4 w3 hf hl) (g := (mkF m pc Ls (argsL.reverse ++ .ref a :: rest))) rfl hml (Steps.refl _) (a := a) (argsL := argsL) (rest := rest) (lenOf pd hlen) rfl (by show 2 * 0 + _ ≤ _; omega) hd (fun _ _ => ⟨rfl, eT, hc, hs⟩)
  dsimp only [Pt.U, Pt.locs, Pt.cells, Pt.slots] at X2 l2 y2 z2 st2 hQ2
  subst l2 y2 z2
  exact own_by (fun t kk => st2.trans kk) (g v T2 Lc2 X2 hQ2)
/-- an instance method of the receiver's own class by its contract -/
theorem own_callV (X : Stand p l e R s m args below meth c T locs cells slots) (hx : p.tables.exec = Jvm.exec) (hZ : Z.Warmed39 s.vm) {own C : String} {index : Nat} {y z : MethodName} {bytes : ByteArray} {maxL W : Nat} {ret : Option FieldType} {rm : Room} {Qc : Option Value → Heap → List Loc → Prop}
    (hown : s.vm.findClass own = some m.cls) (w1 : (Cond.methodLink own index y).before a0 Z = true) (wd : (Cond.declares y).before a0 Z = true) (nf : NotFace s y) (ws : (Cond.selects C y z).before a0 Z = true) (w2 : (Cond.instanceMethod z).before a0 Z = true) (w3 : (Cond.initialized z.cls).before a0 Z = true) (w4 : (Cond.code z bytes maxL ret).before a0 Z = true)
    (hy : y.cls ≠ "java/lang/invoke/MethodHandle" ∧ y.cls ≠ "java/lang/invoke/VarHandle") (hml : Ls.size = c.maxLocals) {a : Addr} {argsL : List Value} {ps : List FieldType} {rt : Option FieldType} (pd : parseMethodDescriptor y.desc = some ⟨ps, rt⟩) (hlen : argsL.length = ps.length)
    (eT : T.heap = h) (E : Exa Z h a C)
    (hM : MetFree l z (head1 [Cond.code z bytes maxL ret] rm) (fun b U => b = (.ref a :: argsL).toArray ∧ Z.Warmed39 U.vm ∧ U.heap = h) (fun _ _ _ _ _ => True) (fun _ U o U' => ∃ v L, o = .returned v ∧ Qc v U'.heap L ∧ FrameEnd U o U' L rm.cells rm.slots))
    (hf : rm.frames + 1 ≤ R.frames) (hl : W + (maxL + 11) + rm.locals ≤ R.locals) (hW : (rest.map fun v => v.category).sum ≤ W) (hc : cells + rm.cells ≤ R.cells) (hs : slots + rm.slots ≤ R.slots) {st : List Value} (hst : st = argsL.reverse ++ .ref a :: rest) (hd : decode c.code pc = .ok (.invokevirtual index, 3))
    (g : ∀ (v : Option Value) (T' : State) (L : List Loc), Stand p l e R s m args below meth c T' (locs ++ L) (cells + rm.cells) (slots + rm.slots) → Qc v T'.heap L → own_Go p e below Fin T' (mkF m (pc + 3) Ls (v.toList ++ rest))) :
    own_Go p e below Fin T (mkF m pc Ls st) := by
  subst hst
  obtain ⟨cq, kq, qa, qb, qc⟩ := isOf hZ eT E
  obtain ⟨v, _, ⟨T2, L2, k2, n2⟩, -, X2, ⟨Lc2, hQ2, l2, y2, z2⟩, st2⟩ := X.virtualBack hx (y := y) (z := z) hown (mvT hZ w1) (mvT hZ wd) nf (mvT hZ ws) (mvT hZ w2) hy (backOf (W := W) hM hZ w4 w3 hf hl) qa qc (g := (mkF m pc Ls (argsL.reverse ++ .ref a :: rest))) rfl hml (Steps.refl _) (argsL := argsL) (rest := rest) (lenOf pd hlen) rfl (by show 2 * 0 + _ ≤ _; omega) hd (fun _ _ => ⟨rfl, eT, hc, hs⟩)
  dsimp only [Pt.U, Pt.locs, Pt.cells, Pt.slots] at X2 l2 y2 z2 st2 hQ2
  subst l2 y2 z2
  exact own_by (fun t kk => st2.trans kk) (g v T2 Lc2 X2 hQ2)
theorem own_getF (X : Stand p l e R s m args below meth c T locs cells slots) (hx : p.tables.exec = Jvm.exec) (hZ : Z.Warmed39 s.vm) {own R0 O nm d : String} {index : Nat} (hown : s.vm.findClass own = some m.cls) (w : (Cond.fieldLink own index R0 nm d).before a0 Z = true) (via : Via Z R0 O nm d) (eT : T.heap = h) {a : Addr} {v : Value} (F : Fld Z h a O nm d v) (hd : decode c.code pc = .ok (.getfield index, 3))
    (g : ∀ T', Stand p l e R s m args below meth c T' locs cells slots → T'.heap = h → own_Go p e below Fin T' (mkF m (pc + 3) Ls (v :: rest))) : own_Go p e below Fin T (mkF m pc Ls (.ref a :: rest)) := by
  obtain ⟨T', X', e', st⟩ := getF X hx hZ hown (host := "") (Or.inl w) via eT F (g := mkF m pc Ls (.ref a :: rest)) rfl rfl hd
  exact own_by (fun t kk => st _ kk) (g T' X' e')
theorem own_getFN (X : Stand p l e R s m args below meth c T locs cells slots) (hx : p.tables.exec = Jvm.exec) (hZ : Z.Warmed39 s.vm) {own R0 O nm d host : String} {index : Nat} (hown : s.vm.findClass own = some m.cls) (w : (Cond.fieldLinkNest own index R0 nm d host).before a0 Z = true) (via : Via Z R0 O nm d) (eT : T.heap = h) {a : Addr} {v : Value} (F : Fld Z h a O nm d v) (hd : decode c.code pc = .ok (.getfield index, 3))
    (g : ∀ T', Stand p l e R s m args below meth c T' locs cells slots → T'.heap = h → own_Go p e below Fin T' (mkF m (pc + 3) Ls (v :: rest))) : own_Go p e below Fin T (mkF m pc Ls (.ref a :: rest)) := by
  obtain ⟨T', X', e', st⟩ := getF X hx hZ hown (Or.inr w) via eT F (g := mkF m pc Ls (.ref a :: rest)) rfl rfl hd
  exact own_by (fun t kk => st _ kk) (g T' X' e')
theorem own_getS (X : Stand p l e R s m args below meth c T locs cells slots) (hx : p.tables.exec = Jvm.exec) (hZ : Z.Warmed39 s.vm) {own R0 O nm d : String} {index : Nat} (hown : s.vm.findClass own = some m.cls) (w : (Cond.fieldLink own index R0 nm d).before a0 Z = true) (via : Via Z R0 O nm d) (eT : T.heap = h) {v : Value} (F : Sta Z h O nm d v) (hd : decode c.code pc = .ok (.getstatic index, 3)) {st0 : List Value}
    (g : ∀ T', Stand p l e R s m args below meth c T' locs cells slots → T'.heap = h → own_Go p e below Fin T' (mkF m (pc + 3) Ls (v :: st0))) : own_Go p e below Fin T (mkF m pc Ls st0) := by
  obtain ⟨T', X', e', st⟩ := getS2 X hx hZ hown (host := "") (Or.inl w) via eT F (g := mkF m pc Ls st0) rfl hd
  exact own_by (fun t kk => st _ kk) (g T' X' e')
theorem own_getSN (X : Stand p l e R s m args below meth c T locs cells slots) (hx : p.tables.exec = Jvm.exec) (hZ : Z.Warmed39 s.vm) {own R0 O nm d host : String} {index : Nat} (hown : s.vm.findClass own = some m.cls) (w : (Cond.fieldLinkNest own index R0 nm d host).before a0 Z = true) (via : Via Z R0 O nm d) (eT : T.heap = h) {v : Value} (F : Sta Z h O nm d v) (hd : decode c.code pc = .ok (.getstatic index, 3)) {st0 : List Value}
    (g : ∀ T', Stand p l e R s m args below meth c T' locs cells slots → T'.heap = h → own_Go p e below Fin T' (mkF m (pc + 3) Ls (v :: st0))) : own_Go p e below Fin T (mkF m pc Ls st0) := by
  obtain ⟨T', X', e', st⟩ := getS2 X hx hZ hown (Or.inr w) via eT F (g := mkF m pc Ls st0) rfl hd
  exact own_by (fun t kk => st _ kk) (g T' X' e')
theorem own_putF (X : Stand p l e R s m args below meth c T locs cells slots) (hx : p.tables.exec = Jvm.exec) (hZ : Z.Warmed39 s.vm) {own R0 O nm d C : String} {index kk : Nat} {ty : FieldType} (hown : s.vm.findClass own = some m.cls) (w : (Cond.fieldLink own index R0 nm d).before a0 Z = true) (via : Via Z R0 O nm d) (eT : T.heap = h) {a : Addr} {v old : Value} (F : Fld Z h a O nm d old) (E : Exa Z h a C)
    (L : (Cond.lays C O nm d).before a0 Z = true ∨ ((Cond.laysFinal C O nm d).before a0 Z = true ∧ own = O ∧ meth.name = "<init>")) (wi : (Cond.instantiable C kk).before a0 Z = true) (hty : parseFieldDescriptor d = some ty) (hn : narrow ty v = v) (hf : fits ty v = true) (hd : decode c.code pc = .ok (.putfield index, 3))
    (g : ∀ T' h', Stand p l e R s m args below meth c T' (locs ++ [⟨a, Jvm.RoadKit.slotOf Z O nm d⟩]) cells slots → T'.heap = h' → Wr h h' a (Jvm.RoadKit.slotOf Z O nm d) v → own_Go p e below Fin T' (mkF m (pc + 3) Ls rest)) : own_Go p e below Fin T (mkF m pc Ls (v :: .ref a :: rest)) := by
  obtain ⟨T', h', X', e', W', st⟩ := putF X hx hZ hown (host := "") (Or.inl w) via eT F E L wi hty hn hf (g := mkF m pc Ls (v :: .ref a :: rest)) rfl rfl hd
  exact own_by (fun t kk => st _ kk) (g T' h' X' e' W')
theorem own_newO (X : Stand p l e R s m args below meth c T locs cells slots) (hx : p.tables.exec = Jvm.exec) (hZ : Z.Warmed39 s.vm) {own C : String} {index nn : Nat} (hown : s.vm.findClass own = some m.cls) (w : (Cond.classLink own index C).before a0 Z = true) (wi : (Cond.instantiable C nn).before a0 Z = true) (wz : (Cond.initialized C).before a0 Z = true) (eT : T.heap = h) (hd : decode c.code pc = .ok (.new index, 3)) (hc : cells + 1 ≤ R.cells) (hl : slots + nn ≤ R.slots) {st0 : List Value}
    (g : ∀ T' h' (b : Addr), Stand p l e R s m args below meth c T' locs (cells + 1) (slots + nn) → T'.heap = h' → b = h.size → Ext h h' → Exa Z h' b C → (∀ {O nm d : String} {ty : FieldType}, Laid Z a0 C O nm d → parseFieldDescriptor d = some ty → Fld Z h' b O nm d (defaultValue ty)) → own_Go p e below Fin T' (mkF m (pc + 3) Ls (.ref b :: st0))) : own_Go p e below Fin T (mkF m pc Ls st0) := by
  obtain ⟨T', h', X', e', E', A', D', -, st⟩ := newO X hx hZ hown w wi wz eT (g := mkF m pc Ls st0) rfl hd hc hl
  exact own_by (fun t kk => st _ kk) (g T' h' _ X' e' rfl E' A' D')
theorem own_initO (X : Stand p l e R s m args below meth c T locs cells slots) (hx : p.tables.exec = Jvm.exec) (hZ : Z.Warmed39 s.vm) {own : String} {idx : Nat} (hown : s.vm.findClass own = some m.cls) (w1 : (Cond.methodLink own idx Lib.objectInit).before a0 Z = true) (w2 : (Cond.instanceMethod Lib.objectInit).before a0 Z = true) (w3 : (Cond.code Lib.objectInit ⟨#[0xb1]⟩ 1 none).before a0 Z = true) (eT : T.heap = h) (hml : Ls.size = c.maxLocals) {a : Addr} (hd : decode c.code pc = .ok (.invokespecial idx, 3)) (hf : 1 ≤ R.frames) {W : Nat} (hW : (rest.map fun v => v.category).sum ≤ W) (hl : W + 12 ≤ R.locals)
    (g : ∀ T', Stand p l e R s m args below meth c T' locs cells slots → T'.heap = h → own_Go p e below Fin T' (mkF m (pc + 3) Ls rest)) : own_Go p e below Fin T (mkF m pc Ls (.ref a :: rest)) := by
  obtain ⟨T', X', e', st⟩ := initO X hx hZ hown w1 w2 w3 eT (g := mkF m pc Ls (.ref a :: rest)) rfl hml rfl hd hf (W := W) (by show 2 * 0 + _ ≤ _; omega) hl
  exact own_by (fun t kk => st _ kk) (g T' X' e')
end OwnKit
section OwnMore
variable {p : Program} {l : Launch} {e : Env} {R : Room} {s : State} {m : MethodId} {args : Array Value} {below : List Frame} {meth : Method} {c : Code} {T T' : State} {locs : List Loc} {cells slots : Nat} {Q : Option Value → Heap → List Loc → Prop} {k n : Nat} {Fin : Outcome → State → Prop} {Z : State} {a0 : Array Value} {h : Heap} {pc : Nat} {Ls : Array Slot} {rest : List Value}
theorem own_acmpEq (X : Stand p l e R s m args below meth c T locs cells slots) (hx : p.tables.exec = Jvm.exec) {a b : Addr} {o : Int} (pc' : Nat) (hd : decode c.code pc = .ok (.if_acmp .eq o, 3)) (ho : 0 ≤ (pc : Int) + o) (hp : ((pc : Int) + o).toNat = pc')
    (g1 : a = b → own_Go p e below Fin T (mkF m pc' Ls rest)) (g2 : ¬ a = b → own_Go p e below Fin T (mkF m (pc + 3) Ls rest)) : own_Go p e below Fin T (mkF m pc Ls (.ref b :: .ref a :: rest)) := by
  by_cases q : a = b
  · exact own_by (fun t kk => XT.acmpYes X.here hx rfl (pc0 := pc) (pc' := pc') rfl hd rfl rfl rfl (decide_eq_true (congrArg Value.ref q)) ho hp kk) (g1 q)
  · exact own_by (fun t kk => XT.acmpNo X.here hx rfl hd rfl rfl rfl (decide_eq_false fun z => q (Value.ref.inj z)) kk) (g2 q)
theorem own_acmpNe (X : Stand p l e R s m args below meth c T locs cells slots) (hx : p.tables.exec = Jvm.exec) {a b : Addr} {o : Int} (pc' : Nat) (hd : decode c.code pc = .ok (.if_acmp .ne o, 3)) (ho : 0 ≤ (pc : Int) + o) (hp : ((pc : Int) + o).toNat = pc')
    (g1 : ¬ a = b → own_Go p e below Fin T (mkF m pc' Ls rest)) (g2 : a = b → own_Go p e below Fin T (mkF m (pc + 3) Ls rest)) : own_Go p e below Fin T (mkF m pc Ls (.ref b :: .ref a :: rest)) := by
  by_cases q : a = b
  · exact own_by (fun t kk => XT.acmpNo X.here hx rfl hd rfl rfl rfl (decide_eq_false fun z => z (congrArg Value.ref q)) kk) (g2 q)
  · exact own_by (fun t kk => XT.acmpYes X.here hx rfl (pc0 := pc) (pc' := pc') rfl hd rfl rfl rfl (decide_eq_true fun z => q (Value.ref.inj z)) ho hp kk) (g1 q)
theorem own_eqI {args : Array Value} {t : Term} {x : Int32} (h : (Cond.eq t (.int x)).value args s none s [] = some true) : t.eval args s none [] s = some (.int x) := by
  have q : (Term.int x).eval args s none [] s = some (.int x) := rfl
  cases ht : t.eval args s none [] s with
  | none => simp [Cond.value, ht] at h
  | some w => cases w <;> simp [Cond.value, ht, q] at h <;> (try subst h) <;> simp_all
theorem own_enumF {args : Array Value} {C f d O nm dd : String} {a : Addr} {x : Int32} (ev : (Term.static C f d).eval args s none [] s = some (.ref a)) (h : (Cond.eq (Term.field (Term.static C f d) O nm dd) (.int x)).value args s none s [] = some true) : Fld s s.heap a O nm dd (.int x) :=
  Fld.start ((fld_at ev).symm.trans (own_eqI h))
theorem own_Sta_keep {Z : State} {h h' : Heap} {C n d : String} {v : Value} {ws : List Addr} (F : Sta Z h C n d v) (K : Keep h h' ws) (q : ∀ x ∈ ws, ∀ cell : Cell, h[x]? = some cell → cell.vm.isStatics = false) : Sta Z h' C n d v := by
  obtain ⟨cf, i, k, f, st, cell, h1, h2, h3, h4, h5, h6, h7⟩ := F
  exact ⟨cf, i, k, f, st, cell, h1, h2, h3, h4, K.2.1 st cell h5 (fun z => by rw [q st z cell h5] at h6; cases h6), h6, h7⟩
end OwnMore
section OwnCall
variable {p : Program} {l : Launch} {e : Env} {R : Room} {s : State} {m : MethodId} {args : Array Value} {below : List Frame} {meth : Method} {c : Code} {T T' : State} {locs : List Loc} {cells slots : Nat} {Fin : Outcome → State → Prop} {Z : State} {a0 : Array Value} {h : Heap} {pc : Nat} {Ls : Array Slot} {rest : List Value}
/-- a private method is selected itself -/
theorem own_selp {y : MethodName} {nn : Nat} (hins : (Cond.instantiable y.cls nn).before args s = true) (hpriv : (Cond.privateMethod y).before args s = true) (hinst : (Cond.instanceMethod y).before args s = true) (hy : y.cls ≠ "java/lang/invoke/MethodHandle" ∧ y.cls ≠ "java/lang/invoke/VarHandle") :
    (Cond.selects y.cls y y).before args s = true := by
  obtain ⟨cc, kc, hc, hk, -, hniab, -, -⟩ := Cond.instantiable_spec hins
  have hni : kc.isInterface = false := (Bool.or_eq_false_iff.mp hniab).1
  obtain ⟨mk, methM, hnamed, hmethM, -, -⟩ := Cond.instanceMethod_spec hinst
  have hfound : s.methodFound? y.cls y.name y.desc = some mk := State.methodFound?_of_named hnamed hy
  have hcls : mk.cls = cc := Option.some.inj ((findClass_of_methodNamed hnamed).symm.trans hc)
  have hsel : selectMethod {} s.vm cc mk = .method mk := selectMethod_private hmethM (Cond.privateMethod_at hpriv mk methM hnamed hmethM)
  simp only [Cond.before, Cond.holds, Cond.value, hc, hfound, hnamed, hsel, hcls, hk]
  simp; exact hni
/-- a private method of the receiver by its contract -/
theorem own_callP (X : Stand p l e R s m args below meth c T locs cells slots) (hx : p.tables.exec = Jvm.exec) (hZ : Z.Warmed39 s.vm) {own C : String} {index nn : Nat} {y : MethodName} {bytes : ByteArray} {maxL W : Nat} {ret : Option FieldType} {rm : Room} {Qc : Option Value → Heap → List Loc → Prop}
    (hown : s.vm.findClass own = some m.cls) (w1 : (Cond.methodLink own index y).before a0 Z = true) (w2 : (Cond.instanceMethod y).before a0 Z = true) (wi : (Cond.instantiable y.cls nn).before a0 Z = true) (wp : (Cond.privateMethod y).before a0 Z = true) (w3 : (Cond.initialized y.cls).before a0 Z = true) (w4 : (Cond.code y bytes maxL ret).before a0 Z = true)
    (hy : y.cls ≠ "java/lang/invoke/MethodHandle" ∧ y.cls ≠ "java/lang/invoke/VarHandle") (hml : Ls.size = c.maxLocals) {a : Addr} {argsL : List Value} {ps : List FieldType} {rt : Option FieldType} (pd : parseMethodDescriptor y.desc = some ⟨ps, rt⟩) (hlen : argsL.length = ps.length)
    (eT : T.heap = h) (E : Exa Z h a C)
    (hM : MetFree l y (head1 [Cond.code y bytes maxL ret] rm) (fun b U => b = (.ref a :: argsL).toArray ∧ Z.Warmed39 U.vm ∧ U.heap = h) (fun _ _ _ _ _ => True) (fun _ U o U' => ∃ v L, o = .returned v ∧ Qc v U'.heap L ∧ FrameEnd U o U' L rm.cells rm.slots))
    (hf : rm.frames + 1 ≤ R.frames) (hl : W + (maxL + 11) + rm.locals ≤ R.locals) (hW : (rest.map fun v => v.category).sum ≤ W) (hc : cells + rm.cells ≤ R.cells) (hs : slots + rm.slots ≤ R.slots) {st : List Value} (hst : st = argsL.reverse ++ .ref a :: rest) (hd : decode c.code pc = .ok (.invokevirtual index, 3))
    (g : ∀ (v : Option Value) (T' : State) (L : List Loc), Stand p l e R s m args below meth c T' (locs ++ L) (cells + rm.cells) (slots + rm.slots) → Qc v T'.heap L → own_Go p e below Fin T' (mkF m (pc + 3) Ls (v.toList ++ rest))) :
    own_Go p e below Fin T (mkF m pc Ls st) := by
  subst hst
  obtain ⟨cq, q1, q2⟩ := E.cell
  obtain ⟨v, _, ⟨T2, L2, k2, n2⟩, -, X2, ⟨Lc2, hQ2, l2, y2, z2⟩, st2⟩ := X.privateBack hx (y := y) hown (mvT hZ w1) (mvT hZ w2) (own_selp (mvT hZ wi) (mvP hZ wp) (mvT hZ w2) hy) (Cond.privateMethod_at (mvP hZ wp (args := #[]))) (mvT hZ w4) hy (backOf (W := W) hM hZ w4 w3 hf hl) (g := (mkF m pc Ls (argsL.reverse ++ .ref a :: rest))) rfl hml (Steps.refl _) (a := a) (by rw [eT]; exact q1) q2 (argsL := argsL) (rest := rest) (lenOf pd hlen) rfl (by show 2 * 0 + _ ≤ _; omega) hd (fun _ _ => ⟨rfl, eT, hc, hs⟩)
  dsimp only [Pt.U, Pt.locs, Pt.cells, Pt.slots] at X2 l2 y2 z2 st2 hQ2
  subst l2 y2 z2
  exact own_by (fun t kk => st2.trans kk) (g v T2 Lc2 X2 hQ2)
/-- an interface's method by the contract of the body that the receiver's class selects -/
theorem own_callI (X : Stand p l e R s m args below meth c T locs cells slots) (hx : p.tables.exec = Jvm.exec) (hZ : Z.Warmed39 s.vm) {own C : String} {index count : Nat} {xi y : MethodName} {bytes : ByteArray} {maxL W : Nat} {ret : Option FieldType} {rm : Room} {Qc : Option Value → Heap → List Loc → Prop}
    (hown : s.vm.findClass own = some m.cls) (w1 : (Cond.methodLink own index xi).before a0 Z = true) (wd : (Cond.declares xi).before a0 Z = true) (wf : (Cond.interfaceMethod xi.cls xi.cls xi.name xi.desc).before a0 Z = true) (hwf : ((Cond.interfaceMethod xi.cls xi.cls xi.name xi.desc).onTables && (Cond.interfaceMethod xi.cls xi.cls xi.name xi.desc).keepsFace) = true) (ws : (Cond.selects C xi y).before a0 Z = true) (w2 : (Cond.instanceMethod y).before a0 Z = true) (wp : (Cond.publicMethod y).before a0 Z = true) (wu : (Cond.unhidden C xi.name xi.desc).before a0 Z = true) (wc : (Cond.castable C xi.cls).before a0 Z = true) (w3 : (Cond.initialized y.cls).before a0 Z = true) (w4 : (Cond.code y bytes maxL ret).before a0 Z = true)
    (hy : xi.cls ≠ "java/lang/invoke/MethodHandle" ∧ xi.cls ≠ "java/lang/invoke/VarHandle") (hml : Ls.size = c.maxLocals) {a : Addr} {argsL : List Value} {ps : List FieldType} {rt : Option FieldType} (pd : parseMethodDescriptor xi.desc = some ⟨ps, rt⟩) (hlen : argsL.length = ps.length)
    (eT : T.heap = h) (E : Exa Z h a C)
    (hM : MetFree l y (head1 [Cond.code y bytes maxL ret] rm) (fun b U => b = (.ref a :: argsL).toArray ∧ Z.Warmed39 U.vm ∧ U.heap = h) (fun _ _ _ _ _ => True) (fun _ U o U' => ∃ v L, o = .returned v ∧ Qc v U'.heap L ∧ FrameEnd U o U' L rm.cells rm.slots))
    (hf : rm.frames + 1 ≤ R.frames) (hl : W + (maxL + 11) + rm.locals ≤ R.locals) (hW : (rest.map fun v => v.category).sum ≤ W) (hc : cells + rm.cells ≤ R.cells) (hs : slots + rm.slots ≤ R.slots) {st : List Value} (hst : st = argsL.reverse ++ .ref a :: rest) (hd : decode c.code pc = .ok (.invokeinterface index count, 5))
    (g : ∀ (v : Option Value) (T' : State) (L : List Loc), Stand p l e R s m args below meth c T' (locs ++ L) (cells + rm.cells) (slots + rm.slots) → Qc v T'.heap L → own_Go p e below Fin T' (mkF m (pc + 5) Ls (v.toList ++ rest))) :
    own_Go p e below Fin T (mkF m pc Ls st) := by
  subst hst
  obtain ⟨cq, kq, qa, qb, qc⟩ := isOf hZ eT E
  obtain ⟨v, _, ⟨T2, L2, k2, n2⟩, -, X2, ⟨Lc2, hQ2, l2, y2, z2⟩, st2⟩ := X.interfaceBack hx (xi := xi) (y := y) hown (mvT hZ w1) (mvT hZ wd) (mvT hZ wf hwf) (mvT hZ ws) (mvT hZ w2) (mvT hZ wp) (mvT hZ wu) (mvT hZ wc) hy (backOf (W := W) hM hZ w4 w3 hf hl) qa qb qc (g := (mkF m pc Ls (argsL.reverse ++ .ref a :: rest))) rfl hml (Steps.refl _) (argsL := argsL) (rest := rest) (lenOf pd hlen) rfl (by show 2 * 0 + _ ≤ _; omega) hd (fun _ _ => ⟨rfl, eT, hc, hs⟩)
  dsimp only [Pt.U, Pt.locs, Pt.cells, Pt.slots] at X2 l2 y2 z2 st2 hQ2
  subst l2 y2 z2
  exact own_by (fun t kk => st2.trans kk) (g v T2 Lc2 X2 hQ2)
theorem own_cast (X : Stand p l e R s m args below meth c T locs cells slots) (hx : p.tables.exec = Jvm.exec) (hZ : Z.Warmed39 s.vm) {own K : String} {index : Nat} (hown : s.vm.findClass own = some m.cls) (w : (Cond.classLink own index K).before a0 Z = true) (eT : T.heap = h) {a : Addr} (F : Ins Z h a K true) (hd : decode c.code pc = .ok (.checkcast index, 3))
    (g : ∀ T', Stand p l e R s m args below meth c T' locs cells slots → T'.heap = h → own_Go p e below Fin T' (mkF m (pc + 3) Ls (.ref a :: rest))) : own_Go p e below Fin T (mkF m pc Ls (.ref a :: rest)) := by
  obtain ⟨T', X', e', st⟩ := castY X hx hZ hown w eT F (g := mkF m pc Ls (.ref a :: rest)) rfl rfl hd
  exact own_by (fun t kk => st _ kk) (g T' X' e')
theorem own_inst (X : Stand p l e R s m args below meth c T locs cells slots) (hx : p.tables.exec = Jvm.exec) (hZ : Z.Warmed39 s.vm) {own K : String} {index : Nat} (hown : s.vm.findClass own = some m.cls) (w : (Cond.classLink own index K).before a0 Z = true) (eT : T.heap = h) {a : Addr} (F : Ins Z h a K true) (hd : decode c.code pc = .ok (.instanceof index, 3))
    (g : ∀ T', Stand p l e R s m args below meth c T' locs cells slots → T'.heap = h → own_Go p e below Fin T' (mkF m (pc + 3) Ls (.int (1 : Int32) :: rest))) : own_Go p e below Fin T (mkF m pc Ls (.ref a :: rest)) := by
  obtain ⟨T', X', e', st⟩ := instY X hx hZ hown w eT F (g := mkF m pc Ls (.ref a :: rest)) rfl rfl hd
  exact own_by (fun t kk => st _ kk) (g T' X' e')
end OwnCall
section OwnArr
variable {p : Program} {l : Launch} {e : Env} {R : Room} {s : State} {m : MethodId} {args : Array Value} {below : List Frame} {meth : Method} {c : Code} {T T' : State} {locs : List Loc} {cells slots : Nat} {Q : Option Value → Heap → List Loc → Prop} {k n : Nat} {Fin : Outcome → State → Prop} {Z : State} {a0 : Array Value} {h h' : Heap} {pc : Nat} {Ls : Array Slot} {rest : List Value}
/-- the array at a holds just vs -/
def own_Arr (Z : State) (h : Heap) (a : Addr) (ty : FieldType) (vs : List Value) : Prop := ∃ cl : Cell, Arr Z h a cl ty ∧ cl.slots = vs.toArray ∧ vs.length < 2 ^ 31 ∧ ∀ v ∈ vs, fits ty v = true
section Facts
variable {a b : Addr} {ty : FieldType} {vs : List Value} {sl : Nat} {v : Value} {ws : List Addr}
theorem own_Arr.lt (F : own_Arr Z h a ty vs) : a < h.size := by obtain ⟨c, A, -⟩ := F; exact A.lt
theorem own_Arr.ext (F : own_Arr Z h a ty vs) (E : Ext h h') : own_Arr Z h' a ty vs := by obtain ⟨c, A, r⟩ := F; exact ⟨c, A.ext E, r⟩
theorem own_Arr.other (F : own_Arr Z h b ty vs) (W : Wr h h' a sl v) (q : b ≠ a) : own_Arr Z h' b ty vs := by obtain ⟨c, A, r⟩ := F; exact ⟨c, A.other W q, r⟩
theorem own_Arr.keep (F : own_Arr Z h a ty vs) (K : Keep h h' ws) (q : a ∉ ws) : own_Arr Z h' a ty vs := by obtain ⟨c, A, r⟩ := F; exact ⟨c, ⟨K.2.1 a c A.1 q, A.2⟩, r⟩
theorem own_Arr.set (F : own_Arr Z h a ty vs) (W : Wr h h' a sl v) (hv : fits ty v = true) : own_Arr Z h' a ty (vs.set sl v) := by
  obtain ⟨c, A, r1, r2, r3⟩ := F
  refine ⟨_, A.same W, ?_, by simpa using r2, fun u hu => ?_⟩
  rotate_left
  · rcases List.mem_or_eq_of_mem_set hu with q | q
    · exact r3 u q
    · rw [q]; exact hv
  show c.slots.setIfInBounds sl v = _
  rw [r1]; simp
theorem own_idx {j : Int32} {i : Nat} (hj : j.toInt = (i : Int)) : j.toNatClampNeg = i ∧ ¬ j < 0 := by
  constructor
  · show j.toInt.toNat = i
    rw [hj]; simp
  · rw [Int32.lt_iff_toInt_lt, hj]
    have : (0 : Int32).toInt = 0 := by decide
    omega
theorem own_inb {cl : Cell} {j : Int32} {i : Nat} (hj : j.toInt = (i : Int)) (hs : cl.slots = vs.toArray) (hi : i < vs.length) : ¬ (j < 0 ∨ cl.slots.size ≤ j.toNatClampNeg) := by
  obtain ⟨q1, q2⟩ := own_idx hj
  rw [q1, hs]
  intro q
  rcases q with q | q
  · exact q2 q
  · simp at q; omega
theorem own_lt_of {i : Nat} {v : Value} (hv : vs[i]? = some v) : i < vs.length := (List.getElem?_eq_some_iff.mp hv).1
theorem own_Arr.new {cA : ClassId} {j : Int32} {i : Nat} (A : Arr Z h a (newA cA ty j) ty) (hj : j.toInt = (i : Int)) : own_Arr Z h a ty (List.replicate i (defaultValue ty)) := by
  refine ⟨_, A, ?_, ?_, fun u hu => ?_⟩
  rotate_left 2
  · rw [(List.mem_replicate.mp hu).2]
    cases ty <;> rfl
  · show Array.replicate j.toNatClampNeg (defaultValue ty) = _
    rw [(own_idx hj).1]; simp
  · have := Int32.toInt_lt j
    simp; omega
end Facts
theorem own_newP (X : Stand p l e R s m args below meth c T locs cells slots) (hx : p.tables.exec = Jvm.exec) (hZ : Z.Warmed39 s.vm) {aty : ArrayType} (w : (Cond.arrayClass (newarray.typeOf aty)).before a0 Z = true) (eT : T.heap = h) (hd : decode c.code pc = .ok (.newarray aty, 2)) {j : Int32} (i cap : Nat) (hj : j.toInt = (i : Int)) (hcap : i ≤ cap) (hb : cap * 8 ≤ 536870912) (hc : cells + 1 ≤ R.cells) (hl : slots + cap ≤ R.slots)
    (g : ∀ T' h' (b : Addr), Stand p l e R s m args below meth c T' locs (cells + 1) (slots + cap) → T'.heap = h' → b = h.size → Ext h h' → own_Arr Z h' b (newarray.typeOf aty) (List.replicate i (defaultValue (newarray.typeOf aty))) → own_Go p e below Fin T' (mkF m (pc + 2) Ls (.ref b :: rest))) : own_Go p e below Fin T (mkF m pc Ls (.int j :: rest)) := by
  obtain ⟨q1, q2⟩ := own_idx hj
  obtain ⟨T', h', cA, X', e', E', A', st⟩ := newP X hx hZ w eT (g := mkF m pc Ls (.int j :: rest)) rfl hd rfl q2 (cap := cap) (by rw [q1]; exact hcap) hb hc hl
  exact own_by (fun t kk => st _ kk) (g T' h' _ X' e' rfl E' (own_Arr.new A' hj))
theorem own_iastore (X : Stand p l e R s m args below meth c T locs cells slots) (hx : p.tables.exec = Jvm.exec) (hZ : Z.Warmed39 s.vm) (eT : T.heap = h) {a : Addr} {vs : List Value} (A : own_Arr Z h a .int vs) {j x : Int32} (i : Nat) (hj : j.toInt = (i : Int)) (hi : i < vs.length) (hd : decode c.code pc = .ok (.iastore, 1))
    (g : ∀ T' h', Stand p l e R s m args below meth c T' (locs ++ [⟨a, i⟩]) cells slots → T'.heap = h' → Wr h h' a i (.int x) → own_Arr Z h' a .int (vs.set i (.int x)) → own_Go p e below Fin T' (mkF m (pc + 1) Ls rest)) : own_Go p e below Fin T (mkF m pc Ls (.int x :: .int j :: .ref a :: rest)) := by
  have A' := A
  obtain ⟨cl, A1, r1, r2⟩ := A
  obtain ⟨T', h', X', e', W', st⟩ := stI X hx hZ eT A1 (own_inb hj r1 hi) (g := mkF m pc Ls (.int x :: .int j :: .ref a :: rest)) rfl rfl hd
  rw [(own_idx hj).1] at X' W'
  exact own_by (fun t kk => st _ kk) (g T' h' X' e' W' (A'.set W' rfl))
theorem own_iaload (X : Stand p l e R s m args below meth c T locs cells slots) (hx : p.tables.exec = Jvm.exec) (hZ : Z.Warmed39 s.vm) (eT : T.heap = h) {a : Addr} {vs : List Value} (A : own_Arr Z h a .int vs) {j : Int32} {v : Value} (i : Nat) (hj : j.toInt = (i : Int)) (hv : vs[i]? = some v) (hd : decode c.code pc = .ok (.iaload, 1))
    (g : own_Go p e below Fin T (mkF m (pc + 1) Ls (v :: rest))) : own_Go p e below Fin T (mkF m pc Ls (.int j :: .ref a :: rest)) := by
  obtain ⟨cl, A1, r1, r2⟩ := A
  exact own_by (fun t kk => X.iaload hx (j := j) (v := v) (by rw [eT]; exact A1.1) (State.isArrayOf_alike hZ.alike A1.2.1) A1.2.2 (own_inb hj r1 (own_lt_of hv)) (by rw [(own_idx hj).1, r1]; simpa using hv) (g := mkF m pc Ls (.int j :: .ref a :: rest)) rfl rfl hd _ kk) g
theorem own_caload (X : Stand p l e R s m args below meth c T locs cells slots) (hx : p.tables.exec = Jvm.exec) (hZ : Z.Warmed39 s.vm) (eT : T.heap = h) {a : Addr} {vs : List Value} (A : own_Arr Z h a .char vs) {j : Int32} {v : Value} (i : Nat) (hj : j.toInt = (i : Int)) (hv : vs[i]? = some v) (hd : decode c.code pc = .ok (.caload, 1))
    (g : own_Go p e below Fin T (mkF m (pc + 1) Ls (v :: rest))) : own_Go p e below Fin T (mkF m pc Ls (.int j :: .ref a :: rest)) := by
  obtain ⟨cl, A1, r1, r2⟩ := A
  exact own_by (fun t kk => X.caload hx (j := j) (v := v) (by rw [eT]; exact A1.1) (State.isArrayOf_alike hZ.alike A1.2.1) A1.2.2 (own_inb hj r1 (own_lt_of hv)) (by rw [(own_idx hj).1, r1]; simpa using hv) (g := mkF m pc Ls (.int j :: .ref a :: rest)) rfl rfl hd _ kk) g
theorem own_baload (X : Stand p l e R s m args below meth c T locs cells slots) (hx : p.tables.exec = Jvm.exec) (hZ : Z.Warmed39 s.vm) (eT : T.heap = h) {a : Addr} {vs : List Value} (A : own_Arr Z h a .byte vs) {j : Int32} {v : Value} (i : Nat) (hj : j.toInt = (i : Int)) (hv : vs[i]? = some v) (hd : decode c.code pc = .ok (.baload, 1))
    (g : own_Go p e below Fin T (mkF m (pc + 1) Ls (v :: rest))) : own_Go p e below Fin T (mkF m pc Ls (.int j :: .ref a :: rest)) := by
  obtain ⟨cl, A1, r1, r2⟩ := A
  exact own_by (fun t kk => X.baloadBytes hx (j := j) (v := v) (by rw [eT]; exact A1.1) (State.isArrayOf_alike hZ.alike A1.2.1) A1.2.2 (own_inb hj r1 (own_lt_of hv)) (by rw [(own_idx hj).1, r1]; simpa using hv) (g := mkF m pc Ls (.int j :: .ref a :: rest)) rfl rfl hd _ kk) g
theorem own_laload (X : Stand p l e R s m args below meth c T locs cells slots) (hx : p.tables.exec = Jvm.exec) (hZ : Z.Warmed39 s.vm) (eT : T.heap = h) {a : Addr} {vs : List Value} (A : own_Arr Z h a .long vs) {j : Int32} {v : Value} (i : Nat) (hj : j.toInt = (i : Int)) (hv : vs[i]? = some v) (hd : decode c.code pc = .ok (.laload, 1))
    (g : own_Go p e below Fin T (mkF m (pc + 1) Ls (v :: rest))) : own_Go p e below Fin T (mkF m pc Ls (.int j :: .ref a :: rest)) := by
  obtain ⟨cl, A1, r1, r2⟩ := A
  exact own_by (fun t kk => X.laload hx (j := j) (v := v) (by rw [eT]; exact A1.1) (State.isArrayOf_alike hZ.alike A1.2.1) A1.2.2 (own_inb hj r1 (own_lt_of hv)) (by rw [(own_idx hj).1, r1]; simpa using hv) (g := mkF m pc Ls (.int j :: .ref a :: rest)) rfl rfl hd _ kk) g
theorem own_castore (X : Stand p l e R s m args below meth c T locs cells slots) (hx : p.tables.exec = Jvm.exec) (hZ : Z.Warmed39 s.vm) (eT : T.heap = h) {a : Addr} {vs : List Value} (A : own_Arr Z h a .char vs) {j : Int32} {x : Int32} (i : Nat) (hj : j.toInt = (i : Int)) (hi : i < vs.length) (hd : decode c.code pc = .ok (.castore, 1))
    (g : ∀ T' h', Stand p l e R s m args below meth c T' (locs ++ [⟨a, i⟩]) cells slots → T'.heap = h' → Wr h h' a i (.int (nar .char x)) → own_Arr Z h' a .char (vs.set i (.int (nar .char x))) → own_Go p e below Fin T' (mkF m (pc + 1) Ls rest)) : own_Go p e below Fin T (mkF m pc Ls (.int x :: .int j :: .ref a :: rest)) := by
  have A' := A
  obtain ⟨cl, A1, r1, r2⟩ := A
  obtain ⟨T', h', X', e', W', st⟩ := stC X hx hZ eT A1 (own_inb hj r1 hi) (g := mkF m pc Ls (.int x :: .int j :: .ref a :: rest)) rfl rfl hd
  rw [(own_idx hj).1] at X' W'
  exact own_by (fun t kk => st _ kk) (g T' h' X' e' W' (A'.set W' (fits_nar_char _)))
theorem own_bastore (X : Stand p l e R s m args below meth c T locs cells slots) (hx : p.tables.exec = Jvm.exec) (hZ : Z.Warmed39 s.vm) (eT : T.heap = h) {a : Addr} {vs : List Value} (A : own_Arr Z h a .byte vs) {j : Int32} {x : Int32} (i : Nat) (hj : j.toInt = (i : Int)) (hi : i < vs.length) (hd : decode c.code pc = .ok (.bastore, 1))
    (g : ∀ T' h', Stand p l e R s m args below meth c T' (locs ++ [⟨a, i⟩]) cells slots → T'.heap = h' → Wr h h' a i (.int (nar .byte x)) → own_Arr Z h' a .byte (vs.set i (.int (nar .byte x))) → own_Go p e below Fin T' (mkF m (pc + 1) Ls rest)) : own_Go p e below Fin T (mkF m pc Ls (.int x :: .int j :: .ref a :: rest)) := by
  have A' := A
  obtain ⟨cl, A1, r1, r2⟩ := A
  obtain ⟨T', h', X', e', W', st⟩ := stB X hx hZ eT A1 (own_inb hj r1 hi) (g := mkF m pc Ls (.int x :: .int j :: .ref a :: rest)) rfl rfl hd
  rw [(own_idx hj).1] at X' W'
  exact own_by (fun t kk => st _ kk) (g T' h' X' e' W' (A'.set W' (fits_nar_byte _)))
theorem own_lastore (X : Stand p l e R s m args below meth c T locs cells slots) (hx : p.tables.exec = Jvm.exec) (hZ : Z.Warmed39 s.vm) (eT : T.heap = h) {a : Addr} {vs : List Value} (A : own_Arr Z h a .long vs) {j : Int32} {x : Int64} (i : Nat) (hj : j.toInt = (i : Int)) (hi : i < vs.length) (hd : decode c.code pc = .ok (.lastore, 1))
    (g : ∀ T' h', Stand p l e R s m args below meth c T' (locs ++ [⟨a, i⟩]) cells slots → T'.heap = h' → Wr h h' a i (.long x) → own_Arr Z h' a .long (vs.set i (.long x)) → own_Go p e below Fin T' (mkF m (pc + 1) Ls rest)) : own_Go p e below Fin T (mkF m pc Ls (.long x :: .int j :: .ref a :: rest)) := by
  have A' := A
  obtain ⟨cl, A1, r1, r2⟩ := A
  obtain ⟨T', h', X', e', W', st⟩ := stJ X hx hZ eT A1 (own_inb hj r1 hi) (g := mkF m pc Ls (.long x :: .int j :: .ref a :: rest)) rfl rfl hd
  rw [(own_idx hj).1] at X' W'
  exact own_by (fun t kk => st _ kk) (g T' h' X' e' W' (A'.set W' rfl))
theorem own_castoreN (X : Stand p l e R s m args below meth c T locs cells slots) (hx : p.tables.exec = Jvm.exec) (hZ : Z.Warmed39 s.vm) (eT : T.heap = h) {a : Addr} {vs : List Value} (A : own_Arr Z h a .char vs) {j : Int32} {x : Int32} (hxn : nar .char x = x) (i : Nat) (hj : j.toInt = (i : Int)) (hi : i < vs.length) (hd : decode c.code pc = .ok (.castore, 1))
    (g : ∀ T' h', Stand p l e R s m args below meth c T' (locs ++ [⟨a, i⟩]) cells slots → T'.heap = h' → Wr h h' a i (.int x) → own_Arr Z h' a .char (vs.set i (.int x)) → own_Go p e below Fin T' (mkF m (pc + 1) Ls rest)) : own_Go p e below Fin T (mkF m pc Ls (.int x :: .int j :: .ref a :: rest)) :=
  own_castore X hx hZ eT A i hj hi hd (by rw [hxn]; exact g)
theorem own_alen (X : Stand p l e R s m args below meth c T locs cells slots) (hx : p.tables.exec = Jvm.exec) (hZ : Z.Warmed39 s.vm) (eT : T.heap = h) {a : Addr} {ty : FieldType} {vs : List Value} (A : own_Arr Z h a ty vs) (hd : decode c.code pc = .ok (.arraylength, 1))
    (g : own_Go p e below Fin T (mkF m (pc + 1) Ls (.int vs.length.toInt32 :: rest))) : own_Go p e below Fin T (mkF m pc Ls (.ref a :: rest)) := by
  obtain ⟨cl, A1, r1, r2⟩ := A
  have hl : cl.slots.size = vs.length := by rw [r1]; simp
  rw [← hl] at g
  exact own_by (fun t kk => X.arraylength hx (by rw [eT]; exact A1.1) (State.isArrayOf_alike hZ.alike A1.2.1) (g := mkF m pc Ls (.ref a :: rest)) rfl rfl hd _ kk) g
theorem own_Arr.nostat {a : Addr} {ty : FieldType} {vs : List Value} (F : own_Arr Z h a ty vs) : ∀ cell : Cell, h[a]? = some cell → cell.vm.isStatics = false := by obtain ⟨c, A, -⟩ := F; exact A.nostat
theorem own_exa_arr {a b : Addr} {C : String} {kk : Nat} {ty : FieldType} {vs : List Value} (F : Exa Z h a C) (wi : (Cond.instantiable C kk).before a0 Z = true) (G : own_Arr Z h b ty vs) : a ≠ b := by
  obtain ⟨c, A, -⟩ := G
  exact ne_arr F wi A
theorem own_Arr.len {a : Addr} {ty : FieldType} {vs : List Value} (F : own_Arr Z h a ty vs) : vs.length < 2 ^ 31 := by obtain ⟨c, -, -, q, -⟩ := F; exact q
theorem own_getD {vs : List Value} {i : Nat} (hi : i < vs.length) (d : Value) : vs.getD i d = vs[i] := by simp [List.getD, hi]
theorem own_Arr.arv {a : Addr} {ty : FieldType} {vs : List Value} (F : own_Arr Z h a ty vs) (dv : Value) : ∃ kk, Arv Z h a kk ty vs.length.toInt32 vs dv := by
  obtain ⟨cl, A, r1, r2, r3⟩ := F
  have e1 : vs.length.toInt32.toInt = vs.length := len_toInt r2
  have e2 := own_idx e1
  have hs : cl.slots.size = vs.length := by rw [r1]; simp
  refine ⟨cl.cls, cl, A, rfl, by rw [hs, e2.1], e2.2, fun i hi => ?_, fun i hi => ?_⟩
  · rw [hs] at hi
    rw [own_getD hi, r1]; simp [hi]
  · rw [hs] at hi
    rw [own_getD hi]; exact r3 _ (List.getElem_mem hi)
theorem own_Arr.of_arv {a : Addr} {kk : ClassId} {ty : FieldType} {z : Int32} {vs : List Value} {dv : Value} (F : Arv Z h a kk ty z vs dv) (hl : z.toNatClampNeg = vs.length) : own_Arr Z h a ty vs := by
  obtain ⟨cl, A, -, q1, q2, H, G⟩ := F
  have hs : cl.slots.size = vs.length := q1.trans hl
  refine ⟨cl, A, ?_, ?_, fun v hv => ?_⟩
  · apply Array.ext'
    apply List.ext_getElem?
    intro i
    by_cases hi : i < vs.length
    · have := H i (by rw [hs]; exact hi)
      rw [own_getD hi] at this
      have q2 : (vs.toArray.toList)[i]? = some vs[i] := by simp [hi]
      rw [q2, Array.getElem?_toList]
      exact this
    · have h1 : cl.slots.toList[i]? = none := by rw [List.getElem?_eq_none_iff]; simp; omega
      have h2 : (vs.toArray.toList)[i]? = none := by rw [List.getElem?_eq_none_iff]; simp; omega
      rw [h1, h2]
  · rw [← hl]
    have := z.toInt_lt
    show z.toInt.toNat < 2 ^ 31
    omega
  · obtain ⟨i, hi, rfl⟩ := List.getElem_of_mem hv
    have := G i (by rw [hs]; exact hi)
    rwa [own_getD hi] at this
end OwnArr
section OwnList
/-- the list us written from the place i on -/
def own_put (vs : List Value) : Nat → List Int32 → List Value
  | _, [] => vs
  | i, u :: us => own_put (vs.set i (.int u)) (i + 1) us
theorem own_put_len : ∀ (us : List Int32) (vs : List Value) (i : Nat), (own_put vs i us).length = vs.length
  | [], vs, i => rfl
  | u :: us, vs, i => by rw [own_put, own_put_len us]; simp
/-- from the place i on the array holds xs -/
def own_At (vs : List Value) : Nat → List Int32 → Prop
  | _, [] => True
  | i, x :: xs => vs[i]? = some (.int x) ∧ own_At vs (i + 1) xs
theorem own_At_app : ∀ (xs ys : List Int32) (vs : List Value) (i : Nat), own_At vs i xs → own_At vs (i + xs.length) ys → own_At vs i (xs ++ ys)
  | [], ys, vs, i, _, h => by simpa using h
  | x :: xs, ys, vs, i, h, h' => by
    have e : i + 1 + xs.length = i + (x :: xs).length := by
      simp; omega
    exact ⟨h.1, own_At_app xs ys vs (i + 1) h.2 (by rw [e]; exact h')⟩
theorem own_put_lo : ∀ (us : List Int32) (vs : List Value) (i j : Nat), j < i → (own_put vs i us)[j]? = vs[j]?
  | [], vs, i, j, _ => rfl
  | u :: us, vs, i, j, h => by rw [own_put, own_put_lo us _ _ _ (by omega), List.getElem?_set_ne (by omega)]
theorem own_put_At : ∀ (us : List Int32) (vs : List Value) (i : Nat), i + us.length ≤ vs.length → own_At (own_put vs i us) i us
  | [], vs, i, _ => trivial
  | u :: us, vs, i, h => by
    have h' : i + 1 + us.length ≤ vs.length := by simp at h; omega
    refine ⟨?_, own_put_At us _ (i + 1) (by simpa using h')⟩
    rw [own_put, own_put_lo us _ _ _ (by omega)]
    have hi : i < vs.length := by simp at h; omega
    simp [hi]
theorem own_inc {x : Int32} {i : Nat} (h : x.toInt = (i : Int)) (hi : i + 1 < 2 ^ 31) : (x + 1).toInt = ((i + 1 : Nat) : Int) := by
  have k : (1 : Int32).toInt = 1 := by decide
  have e : (x + 1).toInt = x.toInt + (1 : Int32).toInt := Jvm.Kit.i32_add (by omega) (by omega)
  rw [e, h, k]; omega
theorem own_nlt {x y : Int32} {i j : Nat} (hx : x.toInt = (i : Int)) (hy : y.toInt = (j : Int)) (q : j ≤ i) : ¬ x < y := by rw [Int32.lt_iff_toInt_lt]; omega
theorem own_ilt {x y : Int32} {i j : Nat} (hx : x.toInt = (i : Int)) (hy : y.toInt = (j : Int)) (q : i < j) : x < y := by rw [Int32.lt_iff_toInt_lt]; omega
end OwnList
section OwnWide
variable {p : Program} {l : Launch} {e : Env} {R : Room} {s : State} {vm0 : Vm} {k0 : Nat} {m : MethodId} {args : Array Value} {below : List Frame} {meth : Method} {c : Code} {T T' : State} {locs : List Loc} {cells slots : Nat} {Q : Option Value → Heap → List Loc → Prop} {k n : Nat} {Fin : Outcome → State → Prop} {Z : State} {a0 : Array Value} {h : Heap} {pc : Nat} {Ls : Array Slot} {rest : List Value}
theorem own_ret_w (X : Stand p l e R (s.setVm vm0) m args below meth c T locs cells slots) (hx : p.tables.exec = Jvm.exec) (hS : s.Since vm0 k0) (hk0 : k0 ≤ h.size) (hlk : meth.locks = false) {w : Value} {t : FieldType} {i : Instr} (hret : meth.sig.returnType = some t)
    (hi : (i = .ireturn ∧ (t = .int ∨ t = .boolean ∨ t = .byte ∨ t = .char ∨ t = .short) ∧ ∃ z, w = .int z) ∨ (i = .lreturn ∧ t = .long ∧ ∃ z, w = .long z) ∨ (i = .dreturn ∧ t = .double ∧ ∃ z, w = .double z) ∨ (i = .freturn ∧ t = .float ∧ ∃ z, w = .float z) ∨ (i = .areturn ∧ t.isReference = true ∧ w.isRef = true))
    (hn : narrow t w = w) (hd : decode c.code pc = .ok (i, 1)) (eT : T.heap = h) (hk : cells ≤ k) (hs : slots ≤ n) (q : Q (some w) h locs) : own_Go p e below (own_FinW s Q k n) T (mkF m pc Ls (w :: rest)) := by
  obtain ⟨fs, hr, hrun, hended, hE⟩ := X.leaveW hS (by rw [eT]; exact hk0) (v := some w) (fun h => by rw [hret] at h; cases h) hlk
  refine ⟨_, _, retOut X hx hret hn hi hd hr, hrun, hended, _, _, rfl, ?_, hE.1, hE.2.1, hE.2.2.1, hE.2.2.2.mono hk hs⟩
  show Q _ T.heap _
  rw [eT]; exact q
theorem own_retIw (X : Stand p l e R (s.setVm vm0) m args below meth c T locs cells slots) (hx : p.tables.exec = Jvm.exec) (hS : s.Since vm0 k0) (hk0 : k0 ≤ h.size) (hlk : meth.locks = false) {z : Int32} (hret : meth.sig.returnType = some .int) (hd : decode c.code pc = .ok (.ireturn, 1)) (eT : T.heap = h) (hk : cells ≤ k) (hs : slots ≤ n) (q : Q (some (.int z)) h locs) : own_Go p e below (own_FinW s Q k n) T (mkF m pc Ls (.int z :: rest)) :=
  own_ret_w X hx hS hk0 hlk hret (Or.inl ⟨rfl, Or.inl rfl, z, rfl⟩) rfl hd eT hk hs q
theorem own_retZw (X : Stand p l e R (s.setVm vm0) m args below meth c T locs cells slots) (hx : p.tables.exec = Jvm.exec) (hS : s.Since vm0 k0) (hk0 : k0 ≤ h.size) (hlk : meth.locks = false) {z : Int32} (hret : meth.sig.returnType = some .boolean) (hz : z = 0 ∨ z = 1) (hd : decode c.code pc = .ok (.ireturn, 1)) (eT : T.heap = h) (hk : cells ≤ k) (hs : slots ≤ n) (q : Q (some (.int z)) h locs) : own_Go p e below (own_FinW s Q k n) T (mkF m pc Ls (.int z :: rest)) :=
  own_ret_w X hx hS hk0 hlk hret (Or.inl ⟨rfl, Or.inr (Or.inl rfl), z, rfl⟩) (by rcases hz with rfl | rfl <;> rfl) hd eT hk hs q
theorem own_retRw (X : Stand p l e R (s.setVm vm0) m args below meth c T locs cells slots) (hx : p.tables.exec = Jvm.exec) (hS : s.Since vm0 k0) (hk0 : k0 ≤ h.size) (hlk : meth.locks = false) {w : Value} {t : FieldType} (hret : meth.sig.returnType = some t) (ht : t.isReference = true) (hw : w.isRef = true) (hn : narrow t w = w) (hd : decode c.code pc = .ok (.areturn, 1)) (eT : T.heap = h) (hk : cells ≤ k) (hs : slots ≤ n) (q : Q (some w) h locs) : own_Go p e below (own_FinW s Q k n) T (mkF m pc Ls (w :: rest)) :=
  own_ret_w X hx hS hk0 hlk hret (Or.inr (Or.inr (Or.inr (Or.inr ⟨rfl, ht, hw⟩)))) hn hd eT hk hs q
/-- ldc of a String constant: it hands out some object -/
theorem own_ldcS (X : Stand p l e R (s.setVm vm0) m args below meth c T locs cells slots) (hx : p.tables.exec = Jvm.exec) (hZ : Z.Warmed39 vm0) {own text : String} {index : Nat} (hown : vm0.findClass own = some m.cls) (w : (Cond.stringLink own index text).before a0 Z = true) (wS : ∀ a ∈ Bundle.stringAtoms, a.before a0 Z = true) (eT : T.heap = h) (hS : s.Since vm0 k0) (hk : k0 ≤ h.size) (hd : decode c.code pc = .ok (.ldc index, 2)) (nn : Nat) (hn : 4 * text.toList.length ≤ nn) (hbig : nn ≤ 536870912) (hc : cells + 2 ≤ R.cells) (hl : slots + (nn + 4) ≤ R.slots) {st0 : List Value}
    (g : ∀ (a : Addr) (T' : State) (h' : Heap) (k1 : Nat), Stand p l e R (s.setVm T'.vm) m args below meth c T' locs (cells + 2) (slots + (nn + 4)) → T'.heap = h' → Ext h h' → s.Since T'.vm k1 → k1 ≤ h'.size → Z.Warmed39 (s.setVm T'.vm).vm → (s.setVm T'.vm).vm.findClass own = some m.cls → own_Go p e below Fin T' (mkF m (pc + 2) Ls (.ref a :: st0))) : own_Go p e below Fin T (mkF m pc Ls st0) := by
  obtain ⟨a, T', h', k1, X', e', E', S', k', Z', o', st⟩ := ldcS X hx hZ hown w wS eT hS hk (g := mkF m pc Ls st0) rfl hd (n := nn) hn hbig hc hl
  exact own_by (fun t kk => st _ kk) (g a T' h' k1 X' e' E' S' k' Z' o')
end OwnWide
section OwnLit
variable {p : Program} {l : Launch} {e : Env} {R : Room} {s : State} {vm0 : Vm} {k0 : Nat} {m : MethodId} {args : Array Value} {below : List Frame} {meth : Method} {c : Code} {T T' : State} {locs : List Loc} {cells slots : Nat} {Fin : Outcome → State → Prop} {Z : State} {a0 : Array Value} {h : Heap} {pc : Nat} {Ls : Array Slot} {rest : List Value} {EL : List (String × Nat)}
/-- ldc of a String constant whose text is known -/
theorem own_ldcC (X : Stand p l e R (s.setVm vm0) m args below meth c T locs cells slots) (hx : p.tables.exec = Jvm.exec) (hZ : Z.Warmed39 vm0) {own text : String} {index : Nat} (hown : vm0.findClass own = some m.cls) (w : (Cond.stringLink own index text).before a0 Z = true) (wS : ∀ a ∈ Bundle.stringAtoms, a.before a0 Z = true) (eT : T.heap = h) (hS : s.Since vm0 k0) (hk : k0 ≤ h.size) (hEL : EW Z a0 EL) (hmem : (own, index) ∈ EL) (H : CHv Z EL vm0 h) (xs : List Int32) (z : Int32)
    (ht : (∀ c ∈ text.toList, c.toNat < 256) ∧ text.toList.map (fun c => Value.int (Jvm.Lit.byteI c.toNat.toUInt16)) = xs.map Value.int) (hz : ¬ z < 0) (hzl : z.toNatClampNeg = xs.length) (hd : decode c.code pc = .ok (.ldc index, 2)) (nn : Nat) (hn : 4 * text.toList.length ≤ nn) (hbig : nn ≤ 536870912) (hc : cells + 2 ≤ R.cells) (hl : slots + (nn + 4) ≤ R.slots) {st0 : List Value}
    (g : ∀ (a : Addr) (T' : State) (h' : Heap) (k1 : Nat) (b : Addr), Stand p l e R (s.setVm T'.vm) m args below meth c T' locs (cells + 2) (slots + (nn + 4)) → T'.heap = h' → Ext h h' → s.Since T'.vm k1 → k1 ≤ h'.size → Z.Warmed39 (s.setVm T'.vm).vm → (s.setVm T'.vm).vm.findClass own = some m.cls →
      Exa Z h' a "java/lang/String" → Fld Z h' a "java/lang/String" "coder" "B" (.int 0) → Fld Z h' a "java/lang/String" "value" "[B" (.ref b) → own_Arr Z h' b .byte (xs.map Value.int) → CHr Z EL vm0 h T'.vm h' → own_Go p e below Fin T' (mkF m (pc + 2) Ls (.ref a :: st0))) : own_Go p e below Fin T (mkF m pc Ls st0) := by
  obtain ⟨a, T', h', k1, b, kk, X', e', E', S', k', Z', o', A1, A2, A3, A4, -, -, C', -, -, st⟩ := ldcCH X hx hZ hown w wS eT hS hk hEL hmem H (z := z) ht hz (by simpa using hzl) (g := mkF m pc Ls st0) rfl hd (n := nn) hn hbig hc hl
  exact own_by (fun t kk => st _ kk) (g a T' h' k1 b X' e' E' S' k' Z' o' A1 A2 A3 (own_Arr.of_arv A4 (by simpa using hzl)) C')
/-- it returned, as Q says; String constants may have been resolved, and they bear their texts -/
def own_FinH (Z : State) (EL : List (String × Nat)) (s : State) (Q : Option Value → Heap → List Loc → Prop) (k n : Nat) (o : Outcome) (t : State) : Prop := ∃ v L, o = .returned v ∧ Q v t.heap L ∧ CHr Z EL s.vm s.heap t.vm t.heap ∧ ReturnedEndW s o t L k n
theorem own_startH {f f' : JFrame} {Q : Option Value → Heap → List Loc → Prop} {k n : Nat} (q : f = f') (g : own_Go p e below (own_FinH Z EL s Q k n) T f') : ∃ s₂ o, Steps p.tables e below (T.setTop f) s₂ ∧ s₂.status = .running ∧ Ended s₂ below o ∧ ∃ v L, o = .returned v ∧ Q v s₂.heap L ∧ CHr Z EL s.vm s.heap s₂.vm s₂.heap ∧ ReturnedEndW s o s₂ L k n := by
  subst q; exact g
theorem own_retRh {h00 : Heap} {Q : Option Value → Heap → List Loc → Prop} {k n : Nat} (X : Stand p l e R (s.setVm vm0) m args below meth c T locs cells slots) (hx : p.tables.exec = Jvm.exec) (hS : s.Since vm0 k0) (hk0 : k0 ≤ h.size) (hZ : Z.Warmed39 vm0) (hEL : EW Z a0 EL) (hs0 : s.heap = h00) (HR : CHr Z EL s.vm h00 vm0 h) (hlk : meth.locks = false) {w : Value} {t : FieldType} (hret : meth.sig.returnType = some t) (ht : t.isReference = true) (hw : w.isRef = true) (hn : narrow t w = w) (hd : decode c.code pc = .ok (.areturn, 1)) (eT : T.heap = h) (hk : cells ≤ k) (hs : slots ≤ n) (q : Q (some w) h locs) : own_Go p e below (own_FinH Z EL s Q k n) T (mkF m pc Ls (w :: rest)) := by
  obtain ⟨fs, hr, hrun, hended, hE⟩ := X.leaveW hS (by rw [eT]; exact hk0) (v := some w) (fun h => by rw [hret] at h; cases h) hlk
  have C1 := HR.trans (CHv.at X hZ hEL HR.1)
  refine ⟨_, _, retOut X hx hret hn (Or.inr (Or.inr (Or.inr (Or.inr ⟨rfl, ht, hw⟩)))) hd hr, hrun, hended, _, _, rfl, ?_, ?_, hE.1, hE.2.1, hE.2.2.1, hE.2.2.2.mono hk hs⟩
  · show Q _ T.heap _
    rw [eT]; exact q
  · show CHr Z EL s.vm s.heap T.vm T.heap
    rw [eT, hs0]; exact C1
/-- a static call of a callee that loads String constants -/
theorem own_callSH (X : Stand p l e R (s.setVm vm0) m args below meth c T locs cells slots) (hx : p.tables.exec = Jvm.exec) (hZ : Z.Warmed39 vm0) {own : String} {index : Nat} {y : MethodName} {bytes : ByteArray} {maxL W : Nat} {ret : Option FieldType} {rm : Room} {Qc : Option Value → Heap → List Loc → Prop}
    (hown : vm0.findClass own = some m.cls) (w1 : (Cond.methodLink own index y).before a0 Z = true) (w2 : (Cond.static y).before a0 Z = true) (w3 : (Cond.initialized y.cls).before a0 Z = true) (w4 : (Cond.code y bytes maxL ret).before a0 Z = true)
    (hy : y.cls ≠ "java/lang/invoke/MethodHandle" ∧ y.cls ≠ "java/lang/invoke/VarHandle") (hml : Ls.size = c.maxLocals) {argsL : List Value} {ps : List FieldType} {rt : Option FieldType} (pd : parseMethodDescriptor y.desc = some ⟨ps, rt⟩) (hlen : argsL.length = ps.length)
    (hM : MetFree l y (head1 [Cond.code y bytes maxL ret] rm) (fun a U => a = argsL.toArray ∧ Z.Warmed39 U.vm ∧ U.heap = h ∧ CHv Z EL U.vm h) (fun _ _ _ _ _ => True) (fun _ U o U' => ∃ v L, o = .returned v ∧ Qc v U'.heap L ∧ CHr Z EL U.vm U.heap U'.vm U'.heap ∧ ReturnedEndW U o U' L rm.cells rm.slots))
    (hf : rm.frames + 1 ≤ R.frames) (hl : W + (maxL + 11) + rm.locals ≤ R.locals) (hW : (rest.map fun v => v.category).sum ≤ W) (hc : cells + rm.cells ≤ R.cells) (hs : slots + rm.slots ≤ R.slots) (eT : T.heap = h) {st : List Value} (hst : st = argsL.reverse ++ rest) (hd : decode c.code pc = .ok (.invokestatic index, 3))
    (hS : s.Since vm0 k0) (hk : k0 ≤ h.size) (hEL : EW Z a0 EL) (H : CHv Z EL vm0 h)
    (g : ∀ (v : Option Value) (T' : State) (L : List Loc), Stand p l e R (s.setVm T'.vm) m args below meth c T' (locs ++ L) (cells + rm.cells) (slots + rm.slots) → s.Since T'.vm T'.heap.size → Z.Warmed39 (s.setVm T'.vm).vm → (s.setVm T'.vm).vm.findClass own = some m.cls → Qc v T'.heap L → CHr Z EL vm0 h T'.vm T'.heap → own_Go p e below Fin T' (mkF m (pc + 3) Ls (v.toList ++ rest))) :
    own_Go p e below Fin T (mkF m pc Ls st) := by
  subst hst
  have hZ' : Z.Warmed39 (s.setVm vm0).vm := hZ
  obtain ⟨v, _, ⟨T2, L2, k2, n2⟩, -, X2, S2, g2, ⟨Lc2, hQ2, l2, y2, z2, C2⟩, st2⟩ := callSS X hx (y := y) hown (mvT hZ' w1) (mvT hZ' w2) (mvT hZ' w3) (mvT hZ' w4) hy (backOfSH (s := s) (W := W) hM hZ w4 w3 hf hl hEL H) (g := (mkF m pc Ls (argsL.reverse ++ rest))) rfl hml (argsL := argsL) (rest := rest) (lenOf pd hlen) rfl (by show 2 * 0 + _ ≤ _; omega) hd (fun _ _ => ⟨rfl, eT, hc, hs⟩)
  dsimp only [Pt.U, Pt.locs, Pt.cells, Pt.slots] at X2 S2 g2 l2 y2 z2 st2 hQ2 C2
  subst l2 y2 z2
  obtain ⟨X3, S3, Z3, o3⟩ := rebS hS (Nat.le_trans hk (Nat.le_of_eq (by rw [eT]))) X2 S2 g2 hZ' hown
  exact own_by (fun t kk => st2.trans kk) (g v T2 Lc2 X3 S3 Z3 o3 hQ2 C2)
end OwnLit
section OwnStart
variable {s : State} {args : Array Value} {t : Term} {a : Addr} {ty : FieldType} {cl : Cell}
theorem own_lenI {x : Int32} (h : (Cond.eq (Term.length t) (.int x)).value args s none s [] = some true) (ev : t.eval args s none [] s = some (.ref a)) (A : Arr s s.heap a cl ty) : cl.slots.size < 2 ^ 31 ∧ cl.slots.size.toInt32 = x := by
  have q := own_eqI h
  have ha : s.arrayAt? a = some cl := Arr.fin (Vm.Alike.refl _) A
  by_cases hl : cl.slots.size < 2 ^ 31
  · rw [len_f ev ha hl] at q
    exact ⟨hl, by simpa using q⟩
  · simp [Term.eval, ev, ha, hl] at q
theorem own_elemI {j x : Int32} (h : (Cond.eq (Term.elem t (.int j)) (.int x)).value args s none s [] = some true) (ev : t.eval args s none [] s = some (.ref a)) (A : Arr s s.heap a cl ty) (hj : ¬ j < 0) : cl.slots[j.toNatClampNeg]? = some (.int x) := by
  have q := own_eqI h
  have ha : s.arrayAt? a = some cl := Arr.fin (Vm.Alike.refl _) A
  rwa [elem_f ev rfl ha hj] at q
theorem own_fldI {O nm d : String} {x : Int32} (ev : t.eval args s none [] s = some (.ref a)) (h : (Cond.eq (Term.field t O nm d) (.int x)).value args s none s [] = some true) : Fld s s.heap a O nm d (.int x) :=
  Fld.start ((fld_at ev).symm.trans (own_eqI h))
theorem own_fldR {O nm d : String} {b : Addr} (ev : t.eval args s none [] s = some (.ref a)) (h : (Term.field t O nm d).eval args s none [] s = some (.ref b)) : Fld s s.heap a O nm d (.ref b) :=
  Fld.start ((fld_at ev).symm.trans h)
theorem own_arrS {xs : List Int32} (hf : Fit s) (A : Arr s s.heap a cl ty) (hl : cl.slots.size < 2 ^ 31 ∧ cl.slots.size.toInt32 = xs.length.toInt32) (hx : xs.length < 2 ^ 31) (H : HasL cl 0 (xs.map Value.int)) : own_Arr s s.heap a ty (xs.map Value.int) := by
  have e1 : xs.length.toInt32.toInt = xs.length := len_toInt hx
  have e2 := own_idx e1
  exact own_Arr.of_arv (Arv.start (dv := .int 0) hf A hl.1 hl.2 e2.2 (by rw [e2.1]; simp) H) (by rw [e2.1]; simp)
theorem own_notI {x y : Int32} (ev : t.eval args s none [] s = some (.int x)) (h : (Cond.not (Cond.eq t (.int y))).value args s none s [] = some true) : ¬ x = y := by
  have q : (Term.int y).eval args s none [] s = some (.int y) := rfl
  simpa [Cond.value, ev, q] using h
end OwnStart
section OwnBack
variable {p : Program} {l : Launch} {e : Env} {R : Room} {s : State} {m : MethodId} {args : Array Value} {below : List Frame} {meth : Method} {c : Code} {T T' : State} {locs : List Loc} {cells slots : Nat} {Fin : Outcome → State → Prop} {Z : State} {a0 : Array Value} {h : Heap} {pc : Nat} {Ls : Array Slot} {rest : List Value}
/-- a constructor that some law of the library pays -/
theorem own_callCB (X : Stand p l e R s m args below meth c T locs cells slots) (hx : p.tables.exec = Jvm.exec) (hZ : Z.Warmed39 s.vm) {own : String} {index : Nat} {y : MethodName} {bytes : ByteArray} {maxL W kc ks : Nat} {Qc : Option Value → Heap → List Loc → Prop} (hy1 : y.name = "<init>")
    (hown : s.vm.findClass own = some m.cls) (w1 : (Cond.methodLink own index y).before a0 Z = true) (w2 : (Cond.instanceMethod y).before a0 Z = true) (w4 : (Cond.code y bytes maxL none).before a0 Z = true)
    (hy : y.cls ≠ "java/lang/invoke/MethodHandle" ∧ y.cls ≠ "java/lang/invoke/VarHandle") (hml : Ls.size = c.maxLocals) {a : Addr} {argsL : List Value} {ps : List FieldType} {rt : Option FieldType} (pd : parseMethodDescriptor y.desc = some ⟨ps, rt⟩) (hlen : argsL.length = ps.length)
    (hK : Back l R p e below s args y 3 W (fun A b => b = (.ref a :: argsL).toArray ∧ A.U.heap = h ∧ A.cells + kc ≤ R.cells ∧ A.slots + ks ≤ R.slots) (fun A _ v B => ∃ L, Qc v B.U.heap L ∧ B.locs = A.locs ++ L ∧ B.cells = A.cells + kc ∧ B.slots = A.slots + ks))
    (hW : (rest.map fun v => v.category).sum ≤ W) (hc : cells + kc ≤ R.cells) (hs : slots + ks ≤ R.slots) (eT : T.heap = h) {st : List Value} (hst : st = argsL.reverse ++ .ref a :: rest) (hd : decode c.code pc = .ok (.invokespecial index, 3))
    (g : ∀ (v : Option Value) (T' : State) (L : List Loc), Stand p l e R s m args below meth c T' (locs ++ L) (cells + kc) (slots + ks) → Qc v T'.heap L → own_Go p e below Fin T' (mkF m (pc + 3) Ls (v.toList ++ rest))) :
    own_Go p e below Fin T (mkF m pc Ls st) := by
  subst hst
  obtain ⟨v, _, ⟨T2, L2, k2, n2⟩, -, X2, ⟨Lc2, hQ2, l2, y2, z2⟩, st2⟩ := X.specialBack hx (y := y) hy1 hown (mvT hZ w1) (mvT hZ w2) (mvT hZ w4) hy hK (g := (mkF m pc Ls (argsL.reverse ++ .ref a :: rest))) rfl hml (Steps.refl _) (a := a) (argsL := argsL) (rest := rest) (lenOf pd hlen) rfl (by show 2 * 0 + _ ≤ _; omega) hd (fun _ _ => ⟨rfl, eT, hc, hs⟩)
  dsimp only [Pt.U, Pt.locs, Pt.cells, Pt.slots] at X2 l2 y2 z2 st2 hQ2
  subst l2 y2 z2
  exact own_by (fun t kk => st2.trans kk) (g v T2 Lc2 X2 hQ2)
/-- an instance method that some law of the library pays -/
theorem own_callVB (X : Stand p l e R s m args below meth c T locs cells slots) (hx : p.tables.exec = Jvm.exec) (hZ : Z.Warmed39 s.vm) {own C : String} {index : Nat} {y z : MethodName} {W kc ks : Nat} {Qc : Option Value → Heap → List Loc → Prop}
    (hown : s.vm.findClass own = some m.cls) (w1 : (Cond.methodLink own index y).before a0 Z = true) (wd : (Cond.declares y).before a0 Z = true) (nf : NotFace s y) (ws : (Cond.selects C y z).before a0 Z = true) (w2 : (Cond.instanceMethod z).before a0 Z = true)
    (hy : y.cls ≠ "java/lang/invoke/MethodHandle" ∧ y.cls ≠ "java/lang/invoke/VarHandle") (hml : Ls.size = c.maxLocals) {a : Addr} {argsL : List Value} {ps : List FieldType} {rt : Option FieldType} (pd : parseMethodDescriptor y.desc = some ⟨ps, rt⟩) (hlen : argsL.length = ps.length)
    (eT : T.heap = h) (E : Exa Z h a C)
    (hK : Back l R p e below s args z 3 W (fun A b => b = (.ref a :: argsL).toArray ∧ A.U.heap = h ∧ A.cells + kc ≤ R.cells ∧ A.slots + ks ≤ R.slots) (fun A _ v B => ∃ L, Qc v B.U.heap L ∧ B.locs = A.locs ++ L ∧ B.cells = A.cells + kc ∧ B.slots = A.slots + ks))
    (hW : (rest.map fun v => v.category).sum ≤ W) (hc : cells + kc ≤ R.cells) (hs : slots + ks ≤ R.slots) {st : List Value} (hst : st = argsL.reverse ++ .ref a :: rest) (hd : decode c.code pc = .ok (.invokevirtual index, 3))
    (g : ∀ (v : Option Value) (T' : State) (L : List Loc), Stand p l e R s m args below meth c T' (locs ++ L) (cells + kc) (slots + ks) → Qc v T'.heap L → own_Go p e below Fin T' (mkF m (pc + 3) Ls (v.toList ++ rest))) :
    own_Go p e below Fin T (mkF m pc Ls st) := by
  subst hst
  obtain ⟨cq, kq, qa, qb, qc⟩ := isOf hZ eT E
  obtain ⟨v, _, ⟨T2, L2, k2, n2⟩, -, X2, ⟨Lc2, hQ2, l2, y2, z2⟩, st2⟩ := X.virtualBack hx (y := y) (z := z) hown (mvT hZ w1) (mvT hZ wd) nf (mvT hZ ws) (mvT hZ w2) hy hK qa qc (g := (mkF m pc Ls (argsL.reverse ++ .ref a :: rest))) rfl hml (Steps.refl _) (argsL := argsL) (rest := rest) (lenOf pd hlen) rfl (by show 2 * 0 + _ ≤ _; omega) hd (fun _ _ => ⟨rfl, eT, hc, hs⟩)
  dsimp only [Pt.U, Pt.locs, Pt.cells, Pt.slots] at X2 l2 y2 z2 st2 hQ2
  subst l2 y2 z2
  exact own_by (fun t kk => st2.trans kk) (g v T2 Lc2 X2 hQ2)
end OwnBack
theorem pn_0 : plainName "com/example/amendment_ledger/amendmentledger/ledger/TextClosingQuotePinLaw" = true := by first | (simp [plainName, overriddenIn]; done) | decide +kernel
theorem d1_0 : decode method_3_code 0 = .ok (.iload_n 0, 1) := by decide +kernel
theorem d1_1 : decode method_3_code 1 = .ok (.bipush 8, 2) := by decide +kernel
theorem d1_3 : decode method_3_code 3 = .ok (.iushr, 1) := by decide +kernel
theorem d1_4 : decode method_3_code 4 = .ok (.iconst 3, 1) := by decide +kernel
theorem d1_5 : decode method_3_code 5 = .ok (.iand, 1) := by decide +kernel
theorem d1_6 : decode method_3_code 6 = .ok (.istore_n 1, 1) := by decide +kernel
theorem d1_7 : decode method_3_code 7 = .ok (.iload_n 1, 1) := by decide +kernel
theorem d1_8 : decode method_3_code 8 = .ok (.ifCond .ne 6, 3) := by decide +kernel
theorem d1_14 : decode method_3_code 14 = .ok (.iload_n 1, 1) := by decide +kernel
theorem d1_15 : decode method_3_code 15 = .ok (.iconst 1, 1) := by decide +kernel
theorem d1_16 : decode method_3_code 16 = .ok (.if_icmp .ne 6, 3) := by decide +kernel
theorem d1_22 : decode method_3_code 22 = .ok (.iload_n 0, 1) := by decide +kernel
theorem d1_23 : decode method_3_code 23 = .ok (.sipush 255, 3) := by decide +kernel
theorem d1_26 : decode method_3_code 26 = .ok (.iand, 1) := by decide +kernel
theorem d1_27 : decode method_3_code 27 = .ok (.i2c, 1) := by decide +kernel
theorem d1_28 : decode method_3_code 28 = .ok (.ireturn, 1) := by decide +kernel
theorem d1_19 : decode method_3_code 19 = .ok (.bipush 92, 2) := by decide +kernel
theorem d1_21 : decode method_3_code 21 = .ok (.ireturn, 1) := by decide +kernel
theorem d1_11 : decode method_3_code 11 = .ok (.bipush 34, 2) := by decide +kernel
theorem d1_13 : decode method_3_code 13 = .ok (.ireturn, 1) := by decide +kernel
theorem d2_0 : decode method_4_code 0 = .ok (.iload_n 1, 1) := by decide +kernel
theorem d2_1 : decode method_4_code 1 = .ok (.iconst 1, 1) := by decide +kernel
theorem d2_2 : decode method_4_code 2 = .ok (.if_icmp .ne 20, 3) := by decide +kernel
theorem d2_5 : decode method_4_code 5 = .ok (.new 28, 3) := by decide +kernel
theorem d2_8 : decode method_4_code 8 = .ok (.dup, 1) := by decide +kernel
theorem d2_9 : decode method_4_code 9 = .ok (.iconst 1, 1) := by decide +kernel
theorem d2_10 : decode method_4_code 10 = .ok (.newarray .char, 2) := by decide +kernel
theorem d2_12 : decode method_4_code 12 = .ok (.dup, 1) := by decide +kernel
theorem d2_13 : decode method_4_code 13 = .ok (.iconst 0, 1) := by decide +kernel
theorem d2_14 : decode method_4_code 14 = .ok (.aload_n 0, 1) := by decide +kernel
theorem d2_15 : decode method_4_code 15 = .ok (.iconst 0, 1) := by decide +kernel
theorem d2_16 : decode method_4_code 16 = .ok (.caload, 1) := by decide +kernel
theorem d2_17 : decode method_4_code 17 = .ok (.castore, 1) := by decide +kernel
theorem d2_18 : decode method_4_code 18 = .ok (.invokespecial 30, 3) := by decide +kernel
theorem pd_2 : parseMethodDescriptor "([C)V" = some ⟨[(.array .char)], none⟩ := by decide +kernel
theorem d2_21 : decode method_4_code 21 = .ok (.areturn, 1) := by decide +kernel
theorem d2_22 : decode method_4_code 22 = .ok (.iload_n 1, 1) := by decide +kernel
theorem d2_23 : decode method_4_code 23 = .ok (.iconst 2, 1) := by decide +kernel
theorem d2_24 : decode method_4_code 24 = .ok (.if_icmp .ne 26, 3) := by decide +kernel
theorem d2_27 : decode method_4_code 27 = .ok (.new 28, 3) := by decide +kernel
theorem d2_30 : decode method_4_code 30 = .ok (.dup, 1) := by decide +kernel
theorem d2_31 : decode method_4_code 31 = .ok (.iconst 2, 1) := by decide +kernel
theorem d2_32 : decode method_4_code 32 = .ok (.newarray .char, 2) := by decide +kernel
theorem d2_34 : decode method_4_code 34 = .ok (.dup, 1) := by decide +kernel
theorem d2_35 : decode method_4_code 35 = .ok (.iconst 0, 1) := by decide +kernel
theorem d2_36 : decode method_4_code 36 = .ok (.aload_n 0, 1) := by decide +kernel
theorem d2_37 : decode method_4_code 37 = .ok (.iconst 0, 1) := by decide +kernel
theorem d2_38 : decode method_4_code 38 = .ok (.caload, 1) := by decide +kernel
theorem d2_39 : decode method_4_code 39 = .ok (.castore, 1) := by decide +kernel
theorem d2_40 : decode method_4_code 40 = .ok (.dup, 1) := by decide +kernel
theorem d2_41 : decode method_4_code 41 = .ok (.iconst 1, 1) := by decide +kernel
theorem d2_42 : decode method_4_code 42 = .ok (.aload_n 0, 1) := by decide +kernel
theorem d2_43 : decode method_4_code 43 = .ok (.iconst 1, 1) := by decide +kernel
theorem d2_44 : decode method_4_code 44 = .ok (.caload, 1) := by decide +kernel
theorem d2_45 : decode method_4_code 45 = .ok (.castore, 1) := by decide +kernel
theorem d2_46 : decode method_4_code 46 = .ok (.invokespecial 30, 3) := by decide +kernel
theorem d2_49 : decode method_4_code 49 = .ok (.areturn, 1) := by decide +kernel
theorem d2_50 : decode method_4_code 50 = .ok (.iload_n 1, 1) := by decide +kernel
theorem d2_51 : decode method_4_code 51 = .ok (.iconst 3, 1) := by decide +kernel
theorem d2_52 : decode method_4_code 52 = .ok (.if_icmp .ne 32, 3) := by decide +kernel
theorem d2_55 : decode method_4_code 55 = .ok (.new 28, 3) := by decide +kernel
theorem d2_58 : decode method_4_code 58 = .ok (.dup, 1) := by decide +kernel
theorem d2_59 : decode method_4_code 59 = .ok (.iconst 3, 1) := by decide +kernel
theorem d2_60 : decode method_4_code 60 = .ok (.newarray .char, 2) := by decide +kernel
theorem d2_62 : decode method_4_code 62 = .ok (.dup, 1) := by decide +kernel
theorem d2_63 : decode method_4_code 63 = .ok (.iconst 0, 1) := by decide +kernel
theorem d2_64 : decode method_4_code 64 = .ok (.aload_n 0, 1) := by decide +kernel
theorem d2_65 : decode method_4_code 65 = .ok (.iconst 0, 1) := by decide +kernel
theorem d2_66 : decode method_4_code 66 = .ok (.caload, 1) := by decide +kernel
theorem d2_67 : decode method_4_code 67 = .ok (.castore, 1) := by decide +kernel
theorem d2_68 : decode method_4_code 68 = .ok (.dup, 1) := by decide +kernel
theorem d2_69 : decode method_4_code 69 = .ok (.iconst 1, 1) := by decide +kernel
theorem d2_70 : decode method_4_code 70 = .ok (.aload_n 0, 1) := by decide +kernel
theorem d2_71 : decode method_4_code 71 = .ok (.iconst 1, 1) := by decide +kernel
theorem d2_72 : decode method_4_code 72 = .ok (.caload, 1) := by decide +kernel
theorem d2_73 : decode method_4_code 73 = .ok (.castore, 1) := by decide +kernel
theorem d2_74 : decode method_4_code 74 = .ok (.dup, 1) := by decide +kernel
theorem d2_75 : decode method_4_code 75 = .ok (.iconst 2, 1) := by decide +kernel
theorem d2_76 : decode method_4_code 76 = .ok (.aload_n 0, 1) := by decide +kernel
theorem d2_77 : decode method_4_code 77 = .ok (.iconst 2, 1) := by decide +kernel
theorem d2_78 : decode method_4_code 78 = .ok (.caload, 1) := by decide +kernel
theorem d2_79 : decode method_4_code 79 = .ok (.castore, 1) := by decide +kernel
theorem d2_80 : decode method_4_code 80 = .ok (.invokespecial 30, 3) := by decide +kernel
theorem d2_83 : decode method_4_code 83 = .ok (.areturn, 1) := by decide +kernel
theorem d2_84 : decode method_4_code 84 = .ok (.iload_n 1, 1) := by decide +kernel
theorem d2_85 : decode method_4_code 85 = .ok (.iconst 4, 1) := by decide +kernel
theorem d2_86 : decode method_4_code 86 = .ok (.if_icmp .ne 38, 3) := by decide +kernel
theorem d2_89 : decode method_4_code 89 = .ok (.new 28, 3) := by decide +kernel
theorem d2_92 : decode method_4_code 92 = .ok (.dup, 1) := by decide +kernel
theorem d2_93 : decode method_4_code 93 = .ok (.iconst 4, 1) := by decide +kernel
theorem d2_94 : decode method_4_code 94 = .ok (.newarray .char, 2) := by decide +kernel
theorem d2_96 : decode method_4_code 96 = .ok (.dup, 1) := by decide +kernel
theorem d2_97 : decode method_4_code 97 = .ok (.iconst 0, 1) := by decide +kernel
theorem d2_98 : decode method_4_code 98 = .ok (.aload_n 0, 1) := by decide +kernel
theorem d2_99 : decode method_4_code 99 = .ok (.iconst 0, 1) := by decide +kernel
theorem d2_100 : decode method_4_code 100 = .ok (.caload, 1) := by decide +kernel
theorem d2_101 : decode method_4_code 101 = .ok (.castore, 1) := by decide +kernel
theorem d2_102 : decode method_4_code 102 = .ok (.dup, 1) := by decide +kernel
theorem d2_103 : decode method_4_code 103 = .ok (.iconst 1, 1) := by decide +kernel
theorem d2_104 : decode method_4_code 104 = .ok (.aload_n 0, 1) := by decide +kernel
theorem d2_105 : decode method_4_code 105 = .ok (.iconst 1, 1) := by decide +kernel
theorem d2_106 : decode method_4_code 106 = .ok (.caload, 1) := by decide +kernel
theorem d2_107 : decode method_4_code 107 = .ok (.castore, 1) := by decide +kernel
theorem d2_108 : decode method_4_code 108 = .ok (.dup, 1) := by decide +kernel
theorem d2_109 : decode method_4_code 109 = .ok (.iconst 2, 1) := by decide +kernel
theorem d2_110 : decode method_4_code 110 = .ok (.aload_n 0, 1) := by decide +kernel
theorem d2_111 : decode method_4_code 111 = .ok (.iconst 2, 1) := by decide +kernel
theorem d2_112 : decode method_4_code 112 = .ok (.caload, 1) := by decide +kernel
theorem d2_113 : decode method_4_code 113 = .ok (.castore, 1) := by decide +kernel
theorem d2_114 : decode method_4_code 114 = .ok (.dup, 1) := by decide +kernel
theorem d2_115 : decode method_4_code 115 = .ok (.iconst 3, 1) := by decide +kernel
theorem d2_116 : decode method_4_code 116 = .ok (.aload_n 0, 1) := by decide +kernel
theorem d2_117 : decode method_4_code 117 = .ok (.iconst 3, 1) := by decide +kernel
theorem d2_118 : decode method_4_code 118 = .ok (.caload, 1) := by decide +kernel
theorem d2_119 : decode method_4_code 119 = .ok (.castore, 1) := by decide +kernel
theorem d2_120 : decode method_4_code 120 = .ok (.invokespecial 30, 3) := by decide +kernel
theorem d2_123 : decode method_4_code 123 = .ok (.areturn, 1) := by decide +kernel
theorem d2_124 : decode method_4_code 124 = .ok (.iload_n 1, 1) := by decide +kernel
theorem d2_125 : decode method_4_code 125 = .ok (.iconst 5, 1) := by decide +kernel
theorem d2_126 : decode method_4_code 126 = .ok (.if_icmp .ne 44, 3) := by decide +kernel
theorem d2_129 : decode method_4_code 129 = .ok (.new 28, 3) := by decide +kernel
theorem d2_132 : decode method_4_code 132 = .ok (.dup, 1) := by decide +kernel
theorem d2_133 : decode method_4_code 133 = .ok (.iconst 5, 1) := by decide +kernel
theorem d2_134 : decode method_4_code 134 = .ok (.newarray .char, 2) := by decide +kernel
theorem d2_136 : decode method_4_code 136 = .ok (.dup, 1) := by decide +kernel
theorem d2_137 : decode method_4_code 137 = .ok (.iconst 0, 1) := by decide +kernel
theorem d2_138 : decode method_4_code 138 = .ok (.aload_n 0, 1) := by decide +kernel
theorem d2_139 : decode method_4_code 139 = .ok (.iconst 0, 1) := by decide +kernel
theorem d2_140 : decode method_4_code 140 = .ok (.caload, 1) := by decide +kernel
theorem d2_141 : decode method_4_code 141 = .ok (.castore, 1) := by decide +kernel
theorem d2_142 : decode method_4_code 142 = .ok (.dup, 1) := by decide +kernel
theorem d2_143 : decode method_4_code 143 = .ok (.iconst 1, 1) := by decide +kernel
theorem d2_144 : decode method_4_code 144 = .ok (.aload_n 0, 1) := by decide +kernel
theorem d2_145 : decode method_4_code 145 = .ok (.iconst 1, 1) := by decide +kernel
theorem d2_146 : decode method_4_code 146 = .ok (.caload, 1) := by decide +kernel
theorem d2_147 : decode method_4_code 147 = .ok (.castore, 1) := by decide +kernel
theorem d2_148 : decode method_4_code 148 = .ok (.dup, 1) := by decide +kernel
theorem d2_149 : decode method_4_code 149 = .ok (.iconst 2, 1) := by decide +kernel
theorem d2_150 : decode method_4_code 150 = .ok (.aload_n 0, 1) := by decide +kernel
theorem d2_151 : decode method_4_code 151 = .ok (.iconst 2, 1) := by decide +kernel
theorem d2_152 : decode method_4_code 152 = .ok (.caload, 1) := by decide +kernel
theorem d2_153 : decode method_4_code 153 = .ok (.castore, 1) := by decide +kernel
theorem d2_154 : decode method_4_code 154 = .ok (.dup, 1) := by decide +kernel
theorem d2_155 : decode method_4_code 155 = .ok (.iconst 3, 1) := by decide +kernel
theorem d2_156 : decode method_4_code 156 = .ok (.aload_n 0, 1) := by decide +kernel
theorem d2_157 : decode method_4_code 157 = .ok (.iconst 3, 1) := by decide +kernel
theorem d2_158 : decode method_4_code 158 = .ok (.caload, 1) := by decide +kernel
theorem d2_159 : decode method_4_code 159 = .ok (.castore, 1) := by decide +kernel
theorem d2_160 : decode method_4_code 160 = .ok (.dup, 1) := by decide +kernel
theorem d2_161 : decode method_4_code 161 = .ok (.iconst 4, 1) := by decide +kernel
theorem d2_162 : decode method_4_code 162 = .ok (.aload_n 0, 1) := by decide +kernel
theorem d2_163 : decode method_4_code 163 = .ok (.iconst 4, 1) := by decide +kernel
theorem d2_164 : decode method_4_code 164 = .ok (.caload, 1) := by decide +kernel
theorem d2_165 : decode method_4_code 165 = .ok (.castore, 1) := by decide +kernel
theorem d2_166 : decode method_4_code 166 = .ok (.invokespecial 30, 3) := by decide +kernel
theorem d2_169 : decode method_4_code 169 = .ok (.areturn, 1) := by decide +kernel
theorem d2_170 : decode method_4_code 170 = .ok (.new 28, 3) := by decide +kernel
theorem d2_173 : decode method_4_code 173 = .ok (.dup, 1) := by decide +kernel
theorem d2_174 : decode method_4_code 174 = .ok (.bipush 6, 2) := by decide +kernel
theorem d2_176 : decode method_4_code 176 = .ok (.newarray .char, 2) := by decide +kernel
theorem d2_178 : decode method_4_code 178 = .ok (.dup, 1) := by decide +kernel
theorem d2_179 : decode method_4_code 179 = .ok (.iconst 0, 1) := by decide +kernel
theorem d2_180 : decode method_4_code 180 = .ok (.aload_n 0, 1) := by decide +kernel
theorem d2_181 : decode method_4_code 181 = .ok (.iconst 0, 1) := by decide +kernel
theorem d2_182 : decode method_4_code 182 = .ok (.caload, 1) := by decide +kernel
theorem d2_183 : decode method_4_code 183 = .ok (.castore, 1) := by decide +kernel
theorem d2_184 : decode method_4_code 184 = .ok (.dup, 1) := by decide +kernel
theorem d2_185 : decode method_4_code 185 = .ok (.iconst 1, 1) := by decide +kernel
theorem d2_186 : decode method_4_code 186 = .ok (.aload_n 0, 1) := by decide +kernel
theorem d2_187 : decode method_4_code 187 = .ok (.iconst 1, 1) := by decide +kernel
theorem d2_188 : decode method_4_code 188 = .ok (.caload, 1) := by decide +kernel
theorem d2_189 : decode method_4_code 189 = .ok (.castore, 1) := by decide +kernel
theorem d2_190 : decode method_4_code 190 = .ok (.dup, 1) := by decide +kernel
theorem d2_191 : decode method_4_code 191 = .ok (.iconst 2, 1) := by decide +kernel
theorem d2_192 : decode method_4_code 192 = .ok (.aload_n 0, 1) := by decide +kernel
theorem d2_193 : decode method_4_code 193 = .ok (.iconst 2, 1) := by decide +kernel
theorem d2_194 : decode method_4_code 194 = .ok (.caload, 1) := by decide +kernel
theorem d2_195 : decode method_4_code 195 = .ok (.castore, 1) := by decide +kernel
theorem d2_196 : decode method_4_code 196 = .ok (.dup, 1) := by decide +kernel
theorem d2_197 : decode method_4_code 197 = .ok (.iconst 3, 1) := by decide +kernel
theorem d2_198 : decode method_4_code 198 = .ok (.aload_n 0, 1) := by decide +kernel
theorem d2_199 : decode method_4_code 199 = .ok (.iconst 3, 1) := by decide +kernel
theorem d2_200 : decode method_4_code 200 = .ok (.caload, 1) := by decide +kernel
theorem d2_201 : decode method_4_code 201 = .ok (.castore, 1) := by decide +kernel
theorem d2_202 : decode method_4_code 202 = .ok (.dup, 1) := by decide +kernel
theorem d2_203 : decode method_4_code 203 = .ok (.iconst 4, 1) := by decide +kernel
theorem d2_204 : decode method_4_code 204 = .ok (.aload_n 0, 1) := by decide +kernel
theorem d2_205 : decode method_4_code 205 = .ok (.iconst 4, 1) := by decide +kernel
theorem d2_206 : decode method_4_code 206 = .ok (.caload, 1) := by decide +kernel
theorem d2_207 : decode method_4_code 207 = .ok (.castore, 1) := by decide +kernel
theorem d2_208 : decode method_4_code 208 = .ok (.dup, 1) := by decide +kernel
theorem d2_209 : decode method_4_code 209 = .ok (.iconst 5, 1) := by decide +kernel
theorem d2_210 : decode method_4_code 210 = .ok (.aload_n 0, 1) := by decide +kernel
theorem d2_211 : decode method_4_code 211 = .ok (.iconst 5, 1) := by decide +kernel
theorem d2_212 : decode method_4_code 212 = .ok (.caload, 1) := by decide +kernel
theorem d2_213 : decode method_4_code 213 = .ok (.castore, 1) := by decide +kernel
theorem d2_214 : decode method_4_code 214 = .ok (.invokespecial 30, 3) := by decide +kernel
theorem d2_217 : decode method_4_code 217 = .ok (.areturn, 1) := by decide +kernel
theorem pn_9 : plainName "com/example/amendment_ledger/amendmentledger/ledger/Value$Text" = true := by first | (simp [plainName, overriddenIn]; done) | decide +kernel
theorem d9_4 : decode prog_58_method_4_code 4 = .ok (.iload_n 2, 1) := by decide +kernel
theorem d9_5 : decode prog_58_method_4_code 5 = .ok (.aload_n 0, 1) := by decide +kernel
theorem d9_6 : decode prog_58_method_4_code 6 = .ok (.invokevirtual 42, 3) := by decide +kernel
theorem pd_9 : parseMethodDescriptor "()I" = some ⟨[], some .int⟩ := by decide +kernel
theorem d9_9 : decode prog_58_method_4_code 9 = .ok (.if_icmp .ge 35, 3) := by decide +kernel
theorem d9_44 : decode prog_58_method_4_code 44 = .ok (.iconst (-1), 1) := by decide +kernel
theorem d9_45 : decode prog_58_method_4_code 45 = .ok (.ireturn, 1) := by decide +kernel
theorem d9_12 : decode prog_58_method_4_code 12 = .ok (.aload_n 0, 1) := by decide +kernel
theorem d9_13 : decode prog_58_method_4_code 13 = .ok (.iload_n 2, 1) := by decide +kernel
theorem d9_14 : decode prog_58_method_4_code 14 = .ok (.invokevirtual 50, 3) := by decide +kernel
theorem pd_0 : parseMethodDescriptor "(I)C" = some ⟨[.int], some .char⟩ := by decide +kernel
theorem d9_17 : decode prog_58_method_4_code 17 = .ok (.istore_n 3, 1) := by decide +kernel
theorem d9_18 : decode prog_58_method_4_code 18 = .ok (.iload_n 3, 1) := by decide +kernel
theorem d9_19 : decode prog_58_method_4_code 19 = .ok (.bipush 92, 2) := by decide +kernel
theorem d9_21 : decode prog_58_method_4_code 21 = .ok (.if_icmp .ne 9, 3) := by decide +kernel
theorem d9_30 : decode prog_58_method_4_code 30 = .ok (.iload_n 3, 1) := by decide +kernel
theorem d9_31 : decode prog_58_method_4_code 31 = .ok (.bipush 34, 2) := by decide +kernel
theorem d9_33 : decode prog_58_method_4_code 33 = .ok (.if_icmp .ne 5, 3) := by decide +kernel
theorem d9_38 : decode prog_58_method_4_code 38 = .ok (.iinc 2 1, 3) := by decide +kernel
theorem d9_41 : decode prog_58_method_4_code 41 = .ok (.goto (-37), 3) := by decide +kernel
theorem d9_36 : decode prog_58_method_4_code 36 = .ok (.iload_n 2, 1) := by decide +kernel
theorem d9_37 : decode prog_58_method_4_code 37 = .ok (.ireturn, 1) := by decide +kernel
theorem d9_24 : decode prog_58_method_4_code 24 = .ok (.iinc 2 1, 3) := by decide +kernel
theorem d9_27 : decode prog_58_method_4_code 27 = .ok (.goto 11, 3) := by decide +kernel
theorem d9_0 : decode prog_58_method_4_code 0 = .ok (.iload_n 1, 1) := by decide +kernel
theorem d9_1 : decode prog_58_method_4_code 1 = .ok (.iconst 1, 1) := by decide +kernel
theorem d9_2 : decode prog_58_method_4_code 2 = .ok (.iadd, 1) := by decide +kernel
theorem d9_3 : decode prog_58_method_4_code 3 = .ok (.istore_n 2, 1) := by decide +kernel
theorem d18_0 : decode method_6_code 0 = .ok (.iconst 0, 1) := by decide +kernel
theorem d18_1 : decode method_6_code 1 = .ok (.istore_n 3, 1) := by decide +kernel
theorem d18_2 : decode method_6_code 2 = .ok (.iload_n 2, 1) := by decide +kernel
theorem d18_3 : decode method_6_code 3 = .ok (.iconst 1, 1) := by decide +kernel
theorem d18_4 : decode method_6_code 4 = .ok (.isub, 1) := by decide +kernel
theorem d18_5 : decode method_6_code 5 = .ok (.istore 4, 2) := by decide +kernel
theorem d18_7 : decode method_6_code 7 = .ok (.iconst 1, 1) := by decide +kernel
theorem d18_8 : decode method_6_code 8 = .ok (.istore 5, 2) := by decide +kernel
theorem d18_10 : decode method_6_code 10 = .ok (.iload 5, 2) := by decide +kernel
theorem d18_12 : decode method_6_code 12 = .ok (.ifCond .eq 27, 3) := by decide +kernel
theorem d18_15 : decode method_6_code 15 = .ok (.iload 4, 2) := by decide +kernel
theorem d18_17 : decode method_6_code 17 = .ok (.iload_n 1, 1) := by decide +kernel
theorem d18_18 : decode method_6_code 18 = .ok (.if_icmp .le 21, 3) := by decide +kernel
theorem d18_39 : decode method_6_code 39 = .ok (.iconst 0, 1) := by decide +kernel
theorem d18_40 : decode method_6_code 40 = .ok (.istore 5, 2) := by decide +kernel
theorem d18_42 : decode method_6_code 42 = .ok (.iload 5, 2) := by decide +kernel
theorem d18_44 : decode method_6_code 44 = .ok (.ifCond .eq 27, 3) := by decide +kernel
theorem d18_71 : decode method_6_code 71 = .ok (.iconst 0, 1) := by decide +kernel
theorem d18_72 : decode method_6_code 72 = .ok (.istore 5, 2) := by decide +kernel
theorem d18_74 : decode method_6_code 74 = .ok (.iload 5, 2) := by decide +kernel
theorem d18_76 : decode method_6_code 76 = .ok (.ifCond .eq 27, 3) := by decide +kernel
theorem d18_103 : decode method_6_code 103 = .ok (.iconst 0, 1) := by decide +kernel
theorem d18_104 : decode method_6_code 104 = .ok (.istore 5, 2) := by decide +kernel
theorem d18_106 : decode method_6_code 106 = .ok (.iload 5, 2) := by decide +kernel
theorem d18_108 : decode method_6_code 108 = .ok (.ifCond .eq 27, 3) := by decide +kernel
theorem d18_135 : decode method_6_code 135 = .ok (.iconst 0, 1) := by decide +kernel
theorem d18_136 : decode method_6_code 136 = .ok (.istore 5, 2) := by decide +kernel
theorem d18_138 : decode method_6_code 138 = .ok (.iload 5, 2) := by decide +kernel
theorem d18_140 : decode method_6_code 140 = .ok (.ifCond .eq 27, 3) := by decide +kernel
theorem d18_167 : decode method_6_code 167 = .ok (.iconst 0, 1) := by decide +kernel
theorem d18_168 : decode method_6_code 168 = .ok (.istore 5, 2) := by decide +kernel
theorem d18_170 : decode method_6_code 170 = .ok (.iload_n 3, 1) := by decide +kernel
theorem d18_171 : decode method_6_code 171 = .ok (.ireturn, 1) := by decide +kernel
theorem d18_21 : decode method_6_code 21 = .ok (.aload_n 0, 1) := by decide +kernel
theorem d18_22 : decode method_6_code 22 = .ok (.iload 4, 2) := by decide +kernel
theorem d18_24 : decode method_6_code 24 = .ok (.caload, 1) := by decide +kernel
theorem d18_25 : decode method_6_code 25 = .ok (.bipush 92, 2) := by decide +kernel
theorem d18_27 : decode method_6_code 27 = .ok (.if_icmp .ne 12, 3) := by decide +kernel
theorem d18_30 : decode method_6_code 30 = .ok (.iinc 3 1, 3) := by decide +kernel
theorem d18_33 : decode method_6_code 33 = .ok (.iinc 4 (-1), 3) := by decide +kernel
theorem d18_36 : decode method_6_code 36 = .ok (.goto 6, 3) := by decide +kernel
theorem d18_47 : decode method_6_code 47 = .ok (.iload 4, 2) := by decide +kernel
theorem d18_49 : decode method_6_code 49 = .ok (.iload_n 1, 1) := by decide +kernel
theorem d18_50 : decode method_6_code 50 = .ok (.if_icmp .le 21, 3) := by decide +kernel
theorem d18_53 : decode method_6_code 53 = .ok (.aload_n 0, 1) := by decide +kernel
theorem d18_54 : decode method_6_code 54 = .ok (.iload 4, 2) := by decide +kernel
theorem d18_56 : decode method_6_code 56 = .ok (.caload, 1) := by decide +kernel
theorem d18_57 : decode method_6_code 57 = .ok (.bipush 92, 2) := by decide +kernel
theorem d18_59 : decode method_6_code 59 = .ok (.if_icmp .ne 12, 3) := by decide +kernel
theorem d18_62 : decode method_6_code 62 = .ok (.iinc 3 1, 3) := by decide +kernel
theorem d18_65 : decode method_6_code 65 = .ok (.iinc 4 (-1), 3) := by decide +kernel
theorem d18_68 : decode method_6_code 68 = .ok (.goto 6, 3) := by decide +kernel
theorem d18_79 : decode method_6_code 79 = .ok (.iload 4, 2) := by decide +kernel
theorem d18_81 : decode method_6_code 81 = .ok (.iload_n 1, 1) := by decide +kernel
theorem d18_82 : decode method_6_code 82 = .ok (.if_icmp .le 21, 3) := by decide +kernel
theorem d18_85 : decode method_6_code 85 = .ok (.aload_n 0, 1) := by decide +kernel
theorem d18_86 : decode method_6_code 86 = .ok (.iload 4, 2) := by decide +kernel
theorem d18_88 : decode method_6_code 88 = .ok (.caload, 1) := by decide +kernel
theorem d18_89 : decode method_6_code 89 = .ok (.bipush 92, 2) := by decide +kernel
theorem d18_91 : decode method_6_code 91 = .ok (.if_icmp .ne 12, 3) := by decide +kernel
theorem d18_94 : decode method_6_code 94 = .ok (.iinc 3 1, 3) := by decide +kernel
theorem d18_97 : decode method_6_code 97 = .ok (.iinc 4 (-1), 3) := by decide +kernel
theorem d18_100 : decode method_6_code 100 = .ok (.goto 6, 3) := by decide +kernel
theorem d18_111 : decode method_6_code 111 = .ok (.iload 4, 2) := by decide +kernel
theorem d18_113 : decode method_6_code 113 = .ok (.iload_n 1, 1) := by decide +kernel
theorem d18_114 : decode method_6_code 114 = .ok (.if_icmp .le 21, 3) := by decide +kernel
theorem d18_117 : decode method_6_code 117 = .ok (.aload_n 0, 1) := by decide +kernel
theorem d18_118 : decode method_6_code 118 = .ok (.iload 4, 2) := by decide +kernel
theorem d18_120 : decode method_6_code 120 = .ok (.caload, 1) := by decide +kernel
theorem d18_121 : decode method_6_code 121 = .ok (.bipush 92, 2) := by decide +kernel
theorem d18_123 : decode method_6_code 123 = .ok (.if_icmp .ne 12, 3) := by decide +kernel
theorem d18_126 : decode method_6_code 126 = .ok (.iinc 3 1, 3) := by decide +kernel
theorem d18_129 : decode method_6_code 129 = .ok (.iinc 4 (-1), 3) := by decide +kernel
theorem d18_132 : decode method_6_code 132 = .ok (.goto 6, 3) := by decide +kernel
theorem d18_143 : decode method_6_code 143 = .ok (.iload 4, 2) := by decide +kernel
theorem d18_145 : decode method_6_code 145 = .ok (.iload_n 1, 1) := by decide +kernel
theorem d18_146 : decode method_6_code 146 = .ok (.if_icmp .le 21, 3) := by decide +kernel
theorem d18_149 : decode method_6_code 149 = .ok (.aload_n 0, 1) := by decide +kernel
theorem d18_150 : decode method_6_code 150 = .ok (.iload 4, 2) := by decide +kernel
theorem d18_152 : decode method_6_code 152 = .ok (.caload, 1) := by decide +kernel
theorem d18_153 : decode method_6_code 153 = .ok (.bipush 92, 2) := by decide +kernel
theorem d18_155 : decode method_6_code 155 = .ok (.if_icmp .ne 12, 3) := by decide +kernel
theorem d18_158 : decode method_6_code 158 = .ok (.iinc 3 1, 3) := by decide +kernel
theorem d18_161 : decode method_6_code 161 = .ok (.iinc 4 (-1), 3) := by decide +kernel
theorem d18_164 : decode method_6_code 164 = .ok (.goto 6, 3) := by decide +kernel
theorem d17_0 : decode method_5_code 0 = .ok (.iload_n 3, 1) := by decide +kernel
theorem d17_1 : decode method_5_code 1 = .ok (.iload_n 2, 1) := by decide +kernel
theorem d17_2 : decode method_5_code 2 = .ok (.if_icmp .le 16, 3) := by decide +kernel
theorem d17_18 : decode method_5_code 18 = .ok (.iconst 0, 1) := by decide +kernel
theorem d17_19 : decode method_5_code 19 = .ok (.ireturn, 1) := by decide +kernel
theorem d17_5 : decode method_5_code 5 = .ok (.iload_n 3, 1) := by decide +kernel
theorem d17_6 : decode method_5_code 6 = .ok (.iload_n 1, 1) := by decide +kernel
theorem d17_7 : decode method_5_code 7 = .ok (.if_icmp .ge 11, 3) := by decide +kernel
theorem d17_10 : decode method_5_code 10 = .ok (.aload_n 0, 1) := by decide +kernel
theorem d17_11 : decode method_5_code 11 = .ok (.iload_n 3, 1) := by decide +kernel
theorem d17_12 : decode method_5_code 12 = .ok (.caload, 1) := by decide +kernel
theorem d17_13 : decode method_5_code 13 = .ok (.bipush 34, 2) := by decide +kernel
theorem d17_15 : decode method_5_code 15 = .ok (.if_icmp .eq 5, 3) := by decide +kernel
theorem d17_20 : decode method_5_code 20 = .ok (.aload_n 0, 1) := by decide +kernel
theorem d17_21 : decode method_5_code 21 = .ok (.iload_n 2, 1) := by decide +kernel
theorem d17_22 : decode method_5_code 22 = .ok (.iload_n 3, 1) := by decide +kernel
theorem d17_23 : decode method_5_code 23 = .ok (.invokestatic 33, 3) := by decide +kernel
theorem pd_16 : parseMethodDescriptor "([CII)I" = some ⟨[(.array .char), .int, .int], some .int⟩ := by decide +kernel
theorem d17_26 : decode method_5_code 26 = .ok (.iconst 2, 1) := by decide +kernel
theorem d17_27 : decode method_5_code 27 = .ok (.irem, 1) := by decide +kernel
theorem d17_28 : decode method_5_code 28 = .ok (.ifCond .ne 7, 3) := by decide +kernel
theorem d17_35 : decode method_5_code 35 = .ok (.iconst 0, 1) := by decide +kernel
theorem d17_36 : decode method_5_code 36 = .ok (.ireturn, 1) := by decide +kernel
theorem d17_31 : decode method_5_code 31 = .ok (.iconst 1, 1) := by decide +kernel
theorem d17_32 : decode method_5_code 32 = .ok (.goto 4, 3) := by decide +kernel
theorem pd_1 : parseMethodDescriptor "([CI)Ljava/lang/String;" = some ⟨[(.array .char), .int], some (.object "java/lang/String")⟩ := by decide +kernel
theorem pd_8 : parseMethodDescriptor "(Ljava/lang/String;I)I" = some ⟨[(.object "java/lang/String"), .int], some .int⟩ := by decide +kernel
theorem pd_15 : parseMethodDescriptor "([CIII)Z" = some ⟨[(.array .char), .int, .int, .int], some .boolean⟩ := by decide +kernel
def own_Ok (c : Int32) : Prop := ¬ c < 0 ∧ ¬ (255 : Int32) < c
theorem own_nar {c : Int32} (h : own_Ok c) : nar .char c = c := by
  obtain ⟨h1, h2⟩ := h
  have k0 : (0 : Int32).toInt = 0 := by decide
  have k1 : (255 : Int32).toInt = 255 := by decide
  have k2 : (65535 : Int32).toInt = 65535 := by decide
  rw [Int32.lt_iff_toInt_lt] at h1 h2
  exact char_back c (by rw [Int32.le_iff_toInt_le]; omega) (by rw [Int32.le_iff_toInt_le]; omega)
theorem own_mok (x : Int32) : own_Ok (x &&& 255) := by
  have e1 : (x &&& 255).toInt = x.toInt % 2 ^ 8 := Jvm.Kit.i32_mask x 255 (k := 8) (by decide) (by decide)
  have k0 : (0 : Int32).toInt = 0 := by decide
  have k1 : (255 : Int32).toInt = 255 := by decide
  constructor <;> rw [Int32.lt_iff_toInt_lt] <;> omega
theorem own_up {cs : List Int32} (h : ∀ c ∈ cs, own_Ok c) : ∀ c ∈ cs, ¬ c < 0 ∧ ¬ (65535 : Int32) < c := fun c hc => ⟨(h c hc).1, fun q => (h c hc).2 (by rw [Int32.lt_iff_toInt_lt] at q ⊢; have e1 : (65535 : Int32).toInt = 65535 := rfl; have e2 : (255 : Int32).toInt = 255 := rfl; omega)⟩
/-- scanning from i on -/
def own_cq : Nat → List Int32 → Nat → Int32
  | 0, _, _ => -1
  | f + 1, cs, i => if i < cs.length then (if cs.getD i 0 = 92 then own_cq f cs (i + 2) else if cs.getD i 0 = 34 then Int32.ofNat i else own_cq f cs (i + 1)) else -1
/-- how many backslashes stand at i, i - 1 .. above on -/
def own_bb : Nat → List Int32 → Nat → Nat → Nat
  | 0, _, _, _ => 0
  | f + 1, ds, on, i => if on < i ∧ ds.getD i 0 = 92 then own_bb f ds on (i - 1) + 1 else 0
theorem own_bb_le : ∀ (f : Nat) (ds : List Int32) (on i : Nat), own_bb f ds on i ≤ f
  | 0, _, _, _ => Nat.le_refl _
  | f + 1, ds, on, i => by rw [own_bb]; split; · exact Nat.succ_le_succ (own_bb_le f ds on (i - 1))
                           · exact Nat.zero_le _
def own_uq (ds : List Int32) (k on j : Nat) : Int32 := if on < j ∧ j < k ∧ ds.getD j 0 = 34 ∧ own_bb 5 ds on (j - 1) % 2 = 0 then 1 else 0
theorem own_rem2 {b : Nat} (h : b ≤ 5) : (Int32.ofNat b % 2 = 0) ↔ b % 2 = 0 := by
  have q : ∀ b : Fin 6, (Int32.ofNat b % 2 = 0) ↔ (b : Nat) % 2 = 0 := by decide
  exact q ⟨b, by omega⟩
theorem own_get {ds : List Int32} {i : Nat} (h : i < ds.length) : (ds.map Value.int)[i]? = some (.int (ds.getD i 0)) := by simp [List.getD, h]
theorem own_dec1 {x : Int32} {i : Nat} (h : x.toInt = (i : Int)) (hi : 0 < i) : (x + (-1)).toInt = ((i - 1 : Nat) : Int) := by
  have k : (-1 : Int32).toInt = -1 := by decide
  have := x.toInt_lt
  have e : (x + (-1)).toInt = x.toInt + (-1 : Int32).toInt := Jvm.Kit.i32_add (by omega) (by omega)
  rw [e, h, k]; omega
theorem own_sub1 {x : Int32} {i : Nat} (h : x.toInt = (i : Int)) (hi : 0 < i) : (x - 1).toInt = ((i - 1 : Nat) : Int) := by
  have k : (1 : Int32).toInt = 1 := by decide
  have := x.toInt_lt
  have e : (x - 1).toInt = x.toInt - (1 : Int32).toInt := Jvm.Kit.i32_sub (by omega) (by omega)
  rw [e, h, k]; omega
theorem own_ltn {x y : Int32} {i j : Nat} (hx : x.toInt = (i : Int)) (hy : y.toInt = (j : Int)) : x < y ↔ i < j := by rw [Int32.lt_iff_toInt_lt]; omega
theorem own_ofN {x : Int32} {i : Nat} (h : x.toInt = (i : Int)) : x = Int32.ofNat i := by
  apply Int32.toInt_inj.mp
  have := x.toInt_lt
  rw [h, Int32.toInt_ofNat_of_lt (by omega)]
def own_rep (c : Int32) : Int32 := if c = 34 then 34 else if c = 92 then 92 else 0
theorem own_rep92 (c : Int32) : (own_rep c = 92) = (c = 92) := by
  unfold own_rep
  by_cases h : c = 34
  · subst h; simp
  · by_cases h' : c = 92 <;> simp [h, h']
theorem own_rep34 (c : Int32) : (own_rep c = 34) = (c = 34) := by
  unfold own_rep
  by_cases h : c = 34
  · subst h; simp
  · by_cases h' : c = 92 <;> simp [h, h']
theorem own_getR (ds : List Int32) (i : Nat) : (ds.map own_rep).getD i 0 = own_rep (ds.getD i 0) := by
  have z : own_rep 0 = 0 := by decide
  by_cases h : i < ds.length <;> simp [List.getD, h, z]
theorem own_cqR : ∀ (f : Nat) (ds : List Int32) (i : Nat), own_cq f (ds.map own_rep) i = own_cq f ds i
  | 0, _, _ => rfl
  | f + 1, ds, i => by simp only [own_cq, own_getR, own_rep92, own_rep34, List.length_map, own_cqR f ds]
theorem own_bbR : ∀ (f : Nat) (ds : List Int32) (on i : Nat), own_bb f (ds.map own_rep) on i = own_bb f ds on i
  | 0, _, _, _ => rfl
  | f + 1, ds, on, i => by simp only [own_bb, own_getR, own_rep92, own_bbR f ds]
theorem own_uqR (ds : List Int32) (k on j : Nat) : own_uq (ds.map own_rep) k on j = own_uq ds k on j := by simp only [own_uq, own_getR, own_rep34, own_bbR]
def own_ref (ds : List Int32) (k on : Nat) : Int32 := if own_uq ds k on 0 = 0 then (if own_uq ds k on 1 = 0 then (if own_uq ds k on 2 = 0 then (if own_uq ds k on 3 = 0 then (if own_uq ds k on 4 = 0 then (if own_uq ds k on 5 = 0 then (-1) else 5) else 4) else 3) else 2) else 1) else 0
def own_code (z : Fin 3) : Int32 := if z = 0 then 34 else if z = 1 then 92 else 0
theorem own_codes (c : Int32) : ∃ z : Fin 3, own_rep c = own_code z := by
  unfold own_rep
  by_cases h : c = 34
  · exact ⟨0, by simp [h, own_code]⟩
  · by_cases h' : c = 92
    · exact ⟨1, by simp [h', own_code]⟩
    · exact ⟨2, by simp [h, h', own_code]⟩
def own_chk (l : List Int32) : Bool := (List.range 6).all fun k => (List.range (k + 1)).all fun on => own_cq 8 (l.take (k + 1)) (on + 1) == own_ref l (k + 1) on
theorem own_all : ∀ a b c d e f : Fin 3, own_chk [own_code a, own_code b, own_code c, own_code d, own_code e, own_code f] = true := by decide +kernel
theorem own_final {ds : List Int32} (h : ds.length = 6) {k on : Nat} (h1 : 1 ≤ k) (h6 : k ≤ 6) (ho : on < k) : own_cq 8 (ds.take k) (on + 1) = own_ref ds k on := by
  have e1 : own_cq 8 (ds.take k) (on + 1) = own_cq 8 ((ds.map own_rep).take k) (on + 1) := by rw [← List.map_take, own_cqR]
  have e2 : own_ref ds k on = own_ref (ds.map own_rep) k on := by simp only [own_ref, own_uqR]
  rw [e1, e2]
  match ds, h with
  | [d0, d1, d2, d3, d4, d5], _ =>
    obtain ⟨z0, q0⟩ := own_codes d0; obtain ⟨z1, q1⟩ := own_codes d1; obtain ⟨z2, q2⟩ := own_codes d2
    obtain ⟨z3, q3⟩ := own_codes d3; obtain ⟨z4, q4⟩ := own_codes d4; obtain ⟨z5, q5⟩ := own_codes d5
    simp only [List.map_cons, List.map_nil, q0, q1, q2, q3, q4, q5]
    have q := own_all z0 z1 z2 z3 z4 z5
    unfold own_chk at q
    have q' := List.all_eq_true.mp (List.all_eq_true.mp q (k - 1) (List.mem_range.mpr (by omega))) on (List.mem_range.mpr (by omega))
    have ek : k - 1 + 1 = k := by omega
    rw [ek] at q'
    simpa using q'
def Q1 (h0 : Heap) (n0 : Nat) (v : Option Value) (h : Heap) (L : List Loc) : Prop := ∃ z : Int32, v = some (.int z) ∧ own_Ok z ∧ Fr n0 L ∧ h = h0
def own_Str (Z : State) (h : Heap) (r t : Addr) (kb : ClassId) (cs : List Int32) : Prop := Exa Z h r "java/lang/String" ∧ Fld Z h r "java/lang/String" "coder" "B" (.int 0) ∧ Fld Z h r "java/lang/String" "value" "[B" (.ref t) ∧ Arv Z h t kb .byte (Int32.ofNat cs.length) ((cs.map fun c => c.toInt8.toInt32).map Value.int) (.int 0)
def Q2 (Z : State) (cs : List Int32) (h0 : Heap) (n0 : Nat) (v : Option Value) (h : Heap) (L : List Loc) : Prop := ∃ (r t : Addr) (kb : ClassId), v = some (.ref r) ∧ Fr n0 L ∧ Keep h0 h [] ∧ own_Str Z h r t kb cs
def QI (z : Int32) (h0 : Heap) (n0 : Nat) (v : Option Value) (h : Heap) (L : List Loc) : Prop := v = some (.int z) ∧ Fr n0 L ∧ h = h0
def Q0 (n0 : Nat) (v : Option Value) (h : Heap) (L : List Loc) : Prop := v = some (.int (1 : Int32)) ∧ Fr n0 L
theorem own_n6 (x : Int32) : ∃ k : Nat, 1 ≤ k ∧ k ≤ 6 ∧ (1 + (x &&& 2147483647) % 6).toInt = (k : Int) := by
  have e1 : (x &&& 2147483647).toInt = x.toInt % 2 ^ 31 := Jvm.Kit.i32_mask x 2147483647 (k := 31) (by decide) (by decide)
  have k5 : (6 : Int32).toInt = 6 := by decide
  have k1 : (1 : Int32).toInt = 1 := by decide
  have e2 := Jvm.Kit.i32_rem_nonneg (x := x &&& 2147483647) (y := 6) (by omega)
  rw [k5] at e2
  have e3 : (1 + (x &&& 2147483647) % 6).toInt = (1 : Int32).toInt + ((x &&& 2147483647) % 6).toInt := Jvm.Kit.i32_add (by omega) (by omega)
  exact ⟨(1 + (x &&& 2147483647) % 6).toInt.toNat, by omega, by omega, by omega⟩
theorem own_op (x n : Int32) {k : Nat} (hk : n.toInt = (k : Int)) (h1 : 1 ≤ k) : ∃ on : Nat, on < k ∧ ((x &&& 2147483647) % n).toInt = (on : Int) := by
  have e1 : (x &&& 2147483647).toInt = x.toInt % 2 ^ 31 := Jvm.Kit.i32_mask x 2147483647 (k := 31) (by decide) (by decide)
  have e2 := Jvm.Kit.i32_rem_nonneg (x := x &&& 2147483647) (y := n) (by omega)
  rw [hk] at e2
  have b1 := Int.emod_nonneg (x &&& 2147483647).toInt (b := (k : Int)) (by omega)
  have b2 := Int.emod_lt_of_pos (x &&& 2147483647).toInt (b := (k : Int)) (by omega)
  exact ⟨((x &&& 2147483647) % n).toInt.toNat, by omega, by omega⟩
theorem own_six {k : Nat} {p : Int32} (h1 : 1 ≤ k) (h6 : k ≤ 6) (h : p.toInt = (k : Int)) : (p = 1 ∧ k = 1) ∨ (p = 2 ∧ k = 2) ∨ (p = 3 ∧ k = 3) ∨ (p = 4 ∧ k = 4) ∨ (p = 5 ∧ k = 5) ∨ (p = 6 ∧ k = 6) := by
  have e : ∀ j : Int32, (p = j ↔ p.toInt = j.toInt) := fun j => Int32.toInt_inj.symm
  simp only [e, h, show (1 : Int32).toInt = 1 from by decide, show (2 : Int32).toInt = 2 from by decide, show (3 : Int32).toInt = 3 from by decide, show (4 : Int32).toInt = 4 from by decide, show (5 : Int32).toInt = 5 from by decide, show (6 : Int32).toInt = 6 from by decide]
  omega
theorem own_nz {n : Int32} {k : Nat} (hk : n.toInt = (k : Int)) (h1 : 1 ≤ k) : n ≠ 0 := by
  intro q; rw [q] at hk
  have z : (0 : Int32).toInt = 0 := by decide
  omega
theorem own_ex6 (l : List Int32) (h : l.length = 6) : ∃ d0 d1 d2 d3 d4 d5 : Int32, l = [d0, d1, d2, d3, d4, d5] := by
  match l, h with
  | [d0, d1, d2, d3, d4, d5], _ => exact ⟨d0, d1, d2, d3, d4, d5, rfl⟩
theorem ef_1 (m : MethodId) (p1 : Int32) : entryFrame m #[(.int p1)] 2 = mkF m 0 #[.val (.int p1), .unset] [] := by first | (simp [entryFrame, mkF, argsToLocals, Value.category]; done) | rfl
set_option maxRecDepth 65536 in
set_option maxHeartbeats 40000000 in
theorem rm1 (l : Launch) (Z : State) (a0 : Array Value) (hw : ∀ d ∈ tables_1, d.before a0 Z = true) (ws : List Jvm.Cond) (p1 : Int32) (h0 : Heap) (n0 : Nat) (Z0 : n0 ≤ h0.size) :
    MetFree l (⟨"com/example/amendment_ledger/amendmentledger/ledger/TextClosingQuotePinLaw", "dec", "(I)C"⟩ : MethodName) (head1 (Jvm.Cond.code (⟨"com/example/amendment_ledger/amendmentledger/ledger/TextClosingQuotePinLaw", "dec", "(I)C"⟩ : MethodName) method_3_code 2 (some .char) :: ws) ({ frames := 0, cells := 0, slots := 0, locals := 0 } : Room)) (fun a U => a = #[(.int p1)] ∧ Z.Warmed39 U.vm ∧ U.heap = h0) (fun _ _ _ _ _ => True) (fun _ U o U' => ∃ v L, o = .returned v ∧ Q1 h0 n0 v U'.heap L ∧ FrameEnd U o U' L ({ frames := 0, cells := 0, slots := 0, locals := 0 } : Room).cells ({ frames := 0, cells := 0, slots := 0, locals := 0 } : Room).slots) := by
  refine MetFree.of_bodySF (plainFor_of_name pn_0) hisR ?_
  intro p e s m args below meth c s₁ Bd hml0 hP hK
  obtain ⟨rfl, hZ, hh⟩ := hP
  have hx := Bd.exec
  have hby := Bd.bytes
  have hml : c.maxLocals = 2 := hml0
  have hown : s.vm.findClass "com/example/amendment_ledger/amendmentledger/ledger/TextClosingQuotePinLaw" = some m.cls := findClass_of_methodNamed Bd.named
  have hnm := (name_of_methodNamed Bd.named Bd.method).1
  have hlk : meth.locks = false := BodyLoose.notSynchronized Bd
  have X0 : Stand p l e ({ frames := 0, cells := 0, slots := 0, locals := 0 } : Room) s m #[(.int p1)] below meth c s₁ [] 0 0 := Stand.of_body Bd
  have e0 : s₁.heap = h0 := by rw [← hh, Bd.state]; rfl
  have N0 := Fr.nil n0
  refine own_start (Q := Q1 h0 n0) (ef_1 m p1) ?_
  show own_Go p e below _ s₁ (mkF m 0 #[.val (.int p1), .unset] [])
  refine own_by (fun t_ k_ => XS.iloadN X0.here hx rfl (hb hby d1_0) rfl k_) ?_
  show own_Go p e below _ s₁ (mkF m 1 #[.val (.int p1), .unset] [(.int p1)])
  refine own_by (fun t_ k_ => XS.bipush X0.here hx rfl (hb hby d1_1) k_) ?_
  show own_Go p e below _ s₁ (mkF m 3 #[.val (.int p1), .unset] [(.int (8 : Int32)), (.int p1)])
  refine own_by (fun t_ k_ => XT.iushr X0.here hx rfl (hb hby d1_3) rfl k_) ?_
  show own_Go p e below _ s₁ (mkF m 4 #[.val (.int p1), .unset] [(.int (XT.ushr p1 (8 : Int32)))])
  refine own_by (fun t_ k_ => XS.iconst X0.here hx rfl (hb hby d1_4) k_) ?_
  show own_Go p e below _ s₁ (mkF m 5 #[.val (.int p1), .unset] [(.int (3 : Int32)), (.int (XT.ushr p1 (8 : Int32)))])
  refine own_by (fun t_ k_ => XS.iand X0.here hx rfl (hb hby d1_5) rfl k_) ?_
  show own_Go p e below _ s₁ (mkF m 6 #[.val (.int p1), .unset] [(.int ((XT.ushr p1 (8 : Int32)) &&& (3 : Int32)))])
  refine own_by (fun t_ k_ => XS.istoreN X0.here hx rfl (hb hby d1_6) rfl (l' := #[.val (.int p1), .val (.int ((XT.ushr p1 (8 : Int32)) &&& (3 : Int32)))]) rfl k_) ?_
  show own_Go p e below _ s₁ (mkF m 7 #[.val (.int p1), .val (.int ((XT.ushr p1 (8 : Int32)) &&& (3 : Int32)))] [])
  refine own_by (fun t_ k_ => XS.iloadN X0.here hx rfl (hb hby d1_7) rfl k_) ?_
  show own_Go p e below _ s₁ (mkF m 8 #[.val (.int p1), .val (.int ((XT.ushr p1 (8 : Int32)) &&& (3 : Int32)))] [(.int ((XT.ushr p1 (8 : Int32)) &&& (3 : Int32)))])
  refine own_if X0 hx 14 (hb hby d1_8) (by decide) (by decide) (fun (hc8 : ¬ ((XT.ushr p1 (8 : Int32)) &&& (3 : Int32)) = (0 : Int32)) => ?_) (fun (hc8 : ((XT.ushr p1 (8 : Int32)) &&& (3 : Int32)) = (0 : Int32)) => ?_)
  · show own_Go p e below _ s₁ (mkF m 14 #[.val (.int p1), .val (.int ((XT.ushr p1 (8 : Int32)) &&& (3 : Int32)))] [])
    refine own_by (fun t_ k_ => XS.iloadN X0.here hx rfl (hb hby d1_14) rfl k_) ?_
    show own_Go p e below _ s₁ (mkF m 15 #[.val (.int p1), .val (.int ((XT.ushr p1 (8 : Int32)) &&& (3 : Int32)))] [(.int ((XT.ushr p1 (8 : Int32)) &&& (3 : Int32)))])
    refine own_by (fun t_ k_ => XS.iconst X0.here hx rfl (hb hby d1_15) k_) ?_
    show own_Go p e below _ s₁ (mkF m 16 #[.val (.int p1), .val (.int ((XT.ushr p1 (8 : Int32)) &&& (3 : Int32)))] [(.int (1 : Int32)), (.int ((XT.ushr p1 (8 : Int32)) &&& (3 : Int32)))])
    refine own_icmp X0 hx 22 (hb hby d1_16) (by decide) (by decide) (fun (hc16 : ¬ ((XT.ushr p1 (8 : Int32)) &&& (3 : Int32)) = (1 : Int32)) => ?_) (fun (hc16 : ((XT.ushr p1 (8 : Int32)) &&& (3 : Int32)) = (1 : Int32)) => ?_)
    · show own_Go p e below _ s₁ (mkF m 22 #[.val (.int p1), .val (.int ((XT.ushr p1 (8 : Int32)) &&& (3 : Int32)))] [])
      refine own_by (fun t_ k_ => XS.iloadN X0.here hx rfl (hb hby d1_22) rfl k_) ?_
      show own_Go p e below _ s₁ (mkF m 23 #[.val (.int p1), .val (.int ((XT.ushr p1 (8 : Int32)) &&& (3 : Int32)))] [(.int p1)])
      refine own_by (fun t_ k_ => XS.sipush X0.here hx rfl (hb hby d1_23) k_) ?_
      show own_Go p e below _ s₁ (mkF m 26 #[.val (.int p1), .val (.int ((XT.ushr p1 (8 : Int32)) &&& (3 : Int32)))] [(.int (255 : Int32)), (.int p1)])
      refine own_by (fun t_ k_ => XS.iand X0.here hx rfl (hb hby d1_26) rfl k_) ?_
      show own_Go p e below _ s₁ (mkF m 27 #[.val (.int p1), .val (.int ((XT.ushr p1 (8 : Int32)) &&& (3 : Int32)))] [(.int (p1 &&& (255 : Int32)))])
      refine own_by (fun t_ k_ => XT.i2c X0.here hx rfl (hb hby d1_27) rfl k_) ?_
      show own_Go p e below _ s₁ (mkF m 28 #[.val (.int p1), .val (.int ((XT.ushr p1 (8 : Int32)) &&& (3 : Int32)))] [(.int (p1 &&& (255 : Int32)).toUInt32.toUInt16.toUInt32.toInt32)])
      refine own_ret X0 hx hlk Bd.returns (t := .char) (Or.inl ⟨rfl, by simp, _, rfl⟩) (Jvm.Free.XT.narrow_c _) (hb hby d1_28) e0 (by decide) (by decide) ?_
      exact ⟨_, rfl, by rw [i2c_mask]; exact own_mok p1, N0, rfl⟩
    · show own_Go p e below _ s₁ (mkF m 19 #[.val (.int p1), .val (.int ((XT.ushr p1 (8 : Int32)) &&& (3 : Int32)))] [])
      refine own_by (fun t_ k_ => XS.bipush X0.here hx rfl (hb hby d1_19) k_) ?_
      show own_Go p e below _ s₁ (mkF m 21 #[.val (.int p1), .val (.int ((XT.ushr p1 (8 : Int32)) &&& (3 : Int32)))] [(.int (92 : Int32))])
      refine own_ret X0 hx hlk Bd.returns (t := .char) (Or.inl ⟨rfl, by simp, _, rfl⟩) rfl (hb hby d1_21) e0 (by decide) (by decide) ?_
      exact ⟨_, rfl, ⟨by decide, by decide⟩, N0, rfl⟩
  · show own_Go p e below _ s₁ (mkF m 11 #[.val (.int p1), .val (.int ((XT.ushr p1 (8 : Int32)) &&& (3 : Int32)))] [])
    refine own_by (fun t_ k_ => XS.bipush X0.here hx rfl (hb hby d1_11) k_) ?_
    show own_Go p e below _ s₁ (mkF m 13 #[.val (.int p1), .val (.int ((XT.ushr p1 (8 : Int32)) &&& (3 : Int32)))] [(.int (34 : Int32))])
    refine own_ret X0 hx hlk Bd.returns (t := .char) (Or.inl ⟨rfl, by simp, _, rfl⟩) rfl (hb hby d1_13) e0 (by decide) (by decide) ?_
    exact ⟨_, rfl, ⟨by decide, by decide⟩, N0, rfl⟩
theorem ef_2 (m : MethodId) (a1 : Addr) (p2 : Int32) : entryFrame m #[(.ref a1), (.int p2)] 2 = mkF m 0 #[.val (.ref a1), .val (.int p2)] [] := by first | (simp [entryFrame, mkF, argsToLocals, Value.category]; done) | rfl
set_option maxRecDepth 65536 in
set_option maxHeartbeats 40000000 in
theorem rm2 (l : Launch) (Z : State) (a0 : Array Value) (hw : ∀ d ∈ tables_1, d.before a0 Z = true) (ws : List Jvm.Cond) (a1 : Addr) (p2 : Int32) (k : Nat) (c0 : Int32) (c1 : Int32) (c2 : Int32) (c3 : Int32) (c4 : Int32) (c5 : Int32) (cs : Int32) (h0 : Heap) (n0 : Nat) (Z0 : n0 ≤ h0.size) (V_a1 : own_Arr Z h0 a1 .char [.int c0, .int c1, .int c2, .int c3, .int c4, .int c5]) (hok : ∀ c ∈ [c0, c1, c2, c3, c4, c5], own_Ok c) (hk : (p2 = 1 ∧ k = 1) ∨ (p2 = 2 ∧ k = 2) ∨ (p2 = 3 ∧ k = 3) ∨ (p2 = 4 ∧ k = 4) ∨ (p2 = 5 ∧ k = 5) ∨ (p2 = 6 ∧ k = 6)) (S_cs : Sta Z h0 "java/lang/String" "COMPACT_STRINGS" "Z" (.int cs)) (hcs : ¬ cs = 0) :
    MetFree l (⟨"com/example/amendment_ledger/amendmentledger/ledger/TextClosingQuotePinLaw", "line", "([CI)Ljava/lang/String;"⟩ : MethodName) (head1 (Jvm.Cond.code (⟨"com/example/amendment_ledger/amendmentledger/ledger/TextClosingQuotePinLaw", "line", "([CI)Ljava/lang/String;"⟩ : MethodName) method_4_code 2 (some (.object "java/lang/String")) :: ws) ({ frames := 4, cells := 3, slots := 16, locals := 66 } : Room)) (fun a U => a = #[(.ref a1), (.int p2)] ∧ Z.Warmed39 U.vm ∧ U.heap = h0) (fun _ _ _ _ _ => True) (fun _ U o U' => ∃ v L, o = .returned v ∧ Q2 Z ([c0, c1, c2, c3, c4, c5].take k) h0 n0 v U'.heap L ∧ FrameEnd U o U' L ({ frames := 4, cells := 3, slots := 16, locals := 66 } : Room).cells ({ frames := 4, cells := 3, slots := 16, locals := 66 } : Room).slots) := by
  refine MetFree.of_bodySF (plainFor_of_name pn_0) hisR ?_
  intro p e s m args below meth c s₁ Bd hml0 hP hK
  obtain ⟨rfl, hZ, hh⟩ := hP
  have hx := Bd.exec
  have hby := Bd.bytes
  have hml : c.maxLocals = 2 := hml0
  have hown : s.vm.findClass "com/example/amendment_ledger/amendmentledger/ledger/TextClosingQuotePinLaw" = some m.cls := findClass_of_methodNamed Bd.named
  have hnm := (name_of_methodNamed Bd.named Bd.method).1
  have hlk : meth.locks = false := BodyLoose.notSynchronized Bd
  have X0 : Stand p l e ({ frames := 4, cells := 3, slots := 16, locals := 66 } : Room) s m #[(.ref a1), (.int p2)] below meth c s₁ [] 0 0 := Stand.of_body Bd
  have e0 : s₁.heap = h0 := by rw [← hh, Bd.state]; rfl
  have N0 := Fr.nil n0
  have hws : ∀ d ∈ StrChars.Road.words, d.before a0 Z = true := fun d hd => hw d ((by decide +kernel : ∀ d ∈ StrChars.Road.words, d ∈ tables_1) d hd)
  refine own_start (Q := Q2 Z ([c0, c1, c2, c3, c4, c5].take k) h0 n0) (ef_2 m a1 p2) ?_
  have K0 := Keep.refl h0 []
  rcases hk with ⟨rfl, rfl⟩ | ⟨rfl, rfl⟩ | ⟨rfl, rfl⟩ | ⟨rfl, rfl⟩ | ⟨rfl, rfl⟩ | ⟨rfl, rfl⟩
  · show own_Go p e below _ s₁ (mkF m 0 #[.val (.ref a1), .val (.int (1 : Int32))] [])
    refine own_by (fun t_ k_ => XS.iloadN X0.here hx rfl (hb hby d2_0) rfl k_) ?_
    show own_Go p e below _ s₁ (mkF m 1 #[.val (.ref a1), .val (.int (1 : Int32))] [(.int (1 : Int32))])
    refine own_by (fun t_ k_ => XS.iconst X0.here hx rfl (hb hby d2_1) k_) ?_
    show own_Go p e below _ s₁ (mkF m 2 #[.val (.ref a1), .val (.int (1 : Int32))] [(.int (1 : Int32)), (.int (1 : Int32))])
    refine own_icmp X0 hx 22 (hb hby d2_2) (by decide) (by decide) (fun hc => absurd (show (1 : Int32) = (1 : Int32) from by decide) (by first | exact hc | exact not_not_intro hc)) (fun _ => ?_)
    show own_Go p e below _ s₁ (mkF m 5 #[.val (.ref a1), .val (.int (1 : Int32))] [])
    refine own_newO X0 hx hZ hown (own_w hw 9 rfl) (own_w hw 10 rfl) (own_w hw 11 rfl) e0 (hb hby d2_5) (by decide) (by decide) ?_
    intro T1 h1 b1 X1 e1 g1 E1 A1 D1
    have lt_a1_b1 : a1 < b1 := Nat.lt_of_lt_of_le V_a1.lt (Nat.le_of_eq g1.symm)
    have g_b1 : n0 ≤ b1 := Nat.le_trans Z0 (Nat.le_of_eq g1.symm)
    have sz1 : n0 ≤ h1.size := Nat.le_trans Z0 E1.1
    have szk_b1 : h0.size ≤ b1 := Nat.le_trans K0.1 (Nat.le_of_eq g1.symm)
    have K1 : Keep h0 h1 [] := K0.ext E1
    have F2_0 : Fld Z h1 b1 "java/lang/String" "coder" "B" (.int (0 : Int32)) := D1 (Or.inr (own_w hw 35 rfl)) (ty := .byte) (by decide)
    have F3_0 : Fld Z h1 b1 "java/lang/String" "value" "[B" .null := D1 (Or.inr (own_w hw 37 rfl)) (ty := (.array .byte)) (by decide)
    show own_Go p e below _ T1 (mkF m 8 #[.val (.ref a1), .val (.int (1 : Int32))] [(.ref b1)])
    refine own_by (fun t_ k_ => XS.dup X1.here hx rfl (hb hby d2_8) rfl rfl k_) ?_
    show own_Go p e below _ T1 (mkF m 9 #[.val (.ref a1), .val (.int (1 : Int32))] [(.ref b1), (.ref b1)])
    refine own_by (fun t_ k_ => XS.iconst X1.here hx rfl (hb hby d2_9) k_) ?_
    show own_Go p e below _ T1 (mkF m 10 #[.val (.ref a1), .val (.int (1 : Int32))] [(.int (1 : Int32)), (.ref b1), (.ref b1)])
    refine own_newP X1 hx hZ (own_w hw 0 rfl) e1 (hb hby d2_10) 1 1 (by decide) (by decide) (by decide) (by decide) (by decide) ?_
    intro T4 h4 b4 X4 e4 g4 E4 A4
    have V_a1_5 : own_Arr Z h1 a1 .char [(.int c0), (.int c1), (.int c2), (.int c3), (.int c4), (.int c5)] := (own_Arr.ext V_a1 E1)
    have lt_a1_b4 : a1 < b4 := Nat.lt_of_lt_of_le V_a1_5.lt (Nat.le_of_eq g4.symm)
    have lt_b1_b4 : b1 < b4 := Nat.lt_of_lt_of_le A1.lt (Nat.le_of_eq g4.symm)
    have g_b4 : n0 ≤ b4 := Nat.le_trans sz1 (Nat.le_of_eq g4.symm)
    have sz4 : n0 ≤ h4.size := Nat.le_trans sz1 E4.1
    have szk_b4 : h0.size ≤ b4 := Nat.le_trans K1.1 (Nat.le_of_eq g4.symm)
    have K4 : Keep h0 h4 [] := K1.ext E4
    have V4_0 : own_Arr Z h4 b4 .char [(.int (0 : Int32))] := A4
    show own_Go p e below _ T4 (mkF m 12 #[.val (.ref a1), .val (.int (1 : Int32))] [(.ref b4), (.ref b1), (.ref b1)])
    refine own_by (fun t_ k_ => XS.dup X4.here hx rfl (hb hby d2_12) rfl rfl k_) ?_
    show own_Go p e below _ T4 (mkF m 13 #[.val (.ref a1), .val (.int (1 : Int32))] [(.ref b4), (.ref b4), (.ref b1), (.ref b1)])
    refine own_by (fun t_ k_ => XS.iconst X4.here hx rfl (hb hby d2_13) k_) ?_
    show own_Go p e below _ T4 (mkF m 14 #[.val (.ref a1), .val (.int (1 : Int32))] [(.int (0 : Int32)), (.ref b4), (.ref b4), (.ref b1), (.ref b1)])
    refine own_by (fun t_ k_ => XS.aloadN X4.here hx rfl (hb hby d2_14) rfl rfl k_) ?_
    show own_Go p e below _ T4 (mkF m 15 #[.val (.ref a1), .val (.int (1 : Int32))] [(.ref a1), (.int (0 : Int32)), (.ref b4), (.ref b4), (.ref b1), (.ref b1)])
    refine own_by (fun t_ k_ => XS.iconst X4.here hx rfl (hb hby d2_15) k_) ?_
    show own_Go p e below _ T4 (mkF m 16 #[.val (.ref a1), .val (.int (1 : Int32))] [(.int (0 : Int32)), (.ref a1), (.int (0 : Int32)), (.ref b4), (.ref b4), (.ref b1), (.ref b1)])
    have V_a1_6 : own_Arr Z h4 a1 .char [(.int c0), (.int c1), (.int c2), (.int c3), (.int c4), (.int c5)] := (own_Arr.ext V_a1_5 E4)
    refine own_caload X4 hx hZ e4 V_a1_6 (v := (.int c0)) 0 (by decide) rfl (hb hby d2_16) ?_
    show own_Go p e below _ T4 (mkF m 17 #[.val (.ref a1), .val (.int (1 : Int32))] [(.int c0), (.int (0 : Int32)), (.ref b4), (.ref b4), (.ref b1), (.ref b1)])
    refine own_castoreN X4 hx hZ e4 V4_0 (own_nar (hok c0 (by simp))) 0 (by decide) (Nat.le_of_ble_eq_true rfl) (hb hby d2_17) ?_
    intro T7 h7 X7 e7 W7 A7
    have V7_0 : own_Arr Z h7 b4 .char [(.int c0)] := A7
    have N7 := Fr.snoc X7 N0 g_b4
    have sz7 : n0 ≤ h7.size := Nat.le_trans sz4 (Keep.of_wr W7).1
    have K7 : Keep h0 h7 [] := K4.wr W7 (Or.inr szk_b4)
    show own_Go p e below _ T7 (mkF m 18 #[.val (.ref a1), .val (.int (1 : Int32))] [(.ref b4), (.ref b1), (.ref b1)])
    have A1_8 : Exa Z h7 b1 "java/lang/String" := (Exa.wr W7 (Exa.ext E4 A1))
    have F3_9 : Fld Z h7 b1 "java/lang/String" "value" "[B" .null := (Fld.other W7 (Fld.ext E4 F3_0) (Or.inl (Nat.ne_of_lt lt_b1_b4)))
    have F2_10 : Fld Z h7 b1 "java/lang/String" "coder" "B" (.int (0 : Int32)) := (Fld.other W7 (Fld.ext E4 F2_0) (Or.inl (Nat.ne_of_lt lt_b1_b4)))
    have S_cs_11 : Sta Z h7 "java/lang/String" "COMPACT_STRINGS" "Z" (.int cs) := (Sta.wr W7 (Sta.ext E4 (Sta.ext E1 S_cs)))
    obtain ⟨kq12, Kq12⟩ := own_Arr.arv V7_0 (.int 0)
    have hp12 : ∀ c ∈ ([c0] : List Int32), ¬ c < 0 ∧ ¬ (255 : Int32) < c := fun c hc => hok c (List.mem_of_mem_take (i := 1) (l := [c0, c1, c2, c3, c4, c5]) hc)
    refine own_callCB (W := 1) X7 hx hZ (y := (⟨"java/lang/String", "<init>", "([C)V"⟩ : MethodName)) (kc := 1) (ks := 1) rfl hown (own_w hw 12 rfl) (own_w hw 13 rfl) (own_w hw 14 rfl) (by decide) (by rw [hml]; rfl) (argsL := [(.ref b4)]) pd_2 rfl (a := b1) (StrChars.Road.backV (W := 1) hZ hws (kI := 4) (own_w hw 10 rfl) (cs := [c0]) (bs := ([c0] : List Int32).map (fun c => c.toInt8.toInt32)) (n := 1) g_b1 sz7 A1_8 F3_9 F2_10 Kq12 S_cs_11 hcs rfl rfl (by decide) (by decide) hp12 rfl (by decide) (by decide)) (Nat.le_of_eq rfl) (by decide) (by decide) (rest := [(.ref b1)]) e7 rfl (hb hby d2_18) ?_
    intro v13 T13 L13 X13 hQ13
    obtain ⟨rfl, N13q, K13q, E13, C13, t13, kb13, gt13, -, -, W13, A13⟩ := hQ13
    have N13 := Fr.app N7 N13q
    have sz13 : n0 ≤ T13.heap.size := Nat.le_trans sz7 K13q.1
    have K13 : Keep h0 T13.heap [] := K7.trans K13q (allS (Or.inr szk_b1) all0)
    show own_Go p e below _ T13 (mkF m 21 #[.val (.ref a1), .val (.int (1 : Int32))] [(.ref b1)])
    refine own_retR X13 hx hlk Bd.returns rfl rfl rfl (hb hby d2_21) rfl (by decide) (by decide) ?_
    exact ⟨b1, t13, kb13, rfl, N13, K13, E13, C13, W13, A13⟩
  · show own_Go p e below _ s₁ (mkF m 0 #[.val (.ref a1), .val (.int (2 : Int32))] [])
    refine own_by (fun t_ k_ => XS.iloadN X0.here hx rfl (hb hby d2_0) rfl k_) ?_
    show own_Go p e below _ s₁ (mkF m 1 #[.val (.ref a1), .val (.int (2 : Int32))] [(.int (2 : Int32))])
    refine own_by (fun t_ k_ => XS.iconst X0.here hx rfl (hb hby d2_1) k_) ?_
    show own_Go p e below _ s₁ (mkF m 2 #[.val (.ref a1), .val (.int (2 : Int32))] [(.int (1 : Int32)), (.int (2 : Int32))])
    refine own_icmp X0 hx 22 (hb hby d2_2) (by decide) (by decide) (fun _ => ?_) (fun hc => absurd (show ¬ (2 : Int32) = (1 : Int32) from by decide) (by first | exact hc | exact not_not_intro hc))
    show own_Go p e below _ s₁ (mkF m 22 #[.val (.ref a1), .val (.int (2 : Int32))] [])
    refine own_by (fun t_ k_ => XS.iloadN X0.here hx rfl (hb hby d2_22) rfl k_) ?_
    show own_Go p e below _ s₁ (mkF m 23 #[.val (.ref a1), .val (.int (2 : Int32))] [(.int (2 : Int32))])
    refine own_by (fun t_ k_ => XS.iconst X0.here hx rfl (hb hby d2_23) k_) ?_
    show own_Go p e below _ s₁ (mkF m 24 #[.val (.ref a1), .val (.int (2 : Int32))] [(.int (2 : Int32)), (.int (2 : Int32))])
    refine own_icmp X0 hx 50 (hb hby d2_24) (by decide) (by decide) (fun hc => absurd (show (2 : Int32) = (2 : Int32) from by decide) (by first | exact hc | exact not_not_intro hc)) (fun _ => ?_)
    show own_Go p e below _ s₁ (mkF m 27 #[.val (.ref a1), .val (.int (2 : Int32))] [])
    refine own_newO X0 hx hZ hown (own_w hw 9 rfl) (own_w hw 10 rfl) (own_w hw 11 rfl) e0 (hb hby d2_27) (by decide) (by decide) ?_
    intro T14 h14 b14 X14 e14 g14 E14 A14 D14
    have lt_a1_b14 : a1 < b14 := Nat.lt_of_lt_of_le V_a1.lt (Nat.le_of_eq g14.symm)
    have g_b14 : n0 ≤ b14 := Nat.le_trans Z0 (Nat.le_of_eq g14.symm)
    have sz14 : n0 ≤ h14.size := Nat.le_trans Z0 E14.1
    have szk_b14 : h0.size ≤ b14 := Nat.le_trans K0.1 (Nat.le_of_eq g14.symm)
    have K14 : Keep h0 h14 [] := K0.ext E14
    have F15_0 : Fld Z h14 b14 "java/lang/String" "coder" "B" (.int (0 : Int32)) := D14 (Or.inr (own_w hw 35 rfl)) (ty := .byte) (by decide)
    have F16_0 : Fld Z h14 b14 "java/lang/String" "value" "[B" .null := D14 (Or.inr (own_w hw 37 rfl)) (ty := (.array .byte)) (by decide)
    show own_Go p e below _ T14 (mkF m 30 #[.val (.ref a1), .val (.int (2 : Int32))] [(.ref b14)])
    refine own_by (fun t_ k_ => XS.dup X14.here hx rfl (hb hby d2_30) rfl rfl k_) ?_
    show own_Go p e below _ T14 (mkF m 31 #[.val (.ref a1), .val (.int (2 : Int32))] [(.ref b14), (.ref b14)])
    refine own_by (fun t_ k_ => XS.iconst X14.here hx rfl (hb hby d2_31) k_) ?_
    show own_Go p e below _ T14 (mkF m 32 #[.val (.ref a1), .val (.int (2 : Int32))] [(.int (2 : Int32)), (.ref b14), (.ref b14)])
    refine own_newP X14 hx hZ (own_w hw 0 rfl) e14 (hb hby d2_32) 2 2 (by decide) (by decide) (by decide) (by decide) (by decide) ?_
    intro T17 h17 b17 X17 e17 g17 E17 A17
    have V_a1_18 : own_Arr Z h14 a1 .char [(.int c0), (.int c1), (.int c2), (.int c3), (.int c4), (.int c5)] := (own_Arr.ext V_a1 E14)
    have lt_a1_b17 : a1 < b17 := Nat.lt_of_lt_of_le V_a1_18.lt (Nat.le_of_eq g17.symm)
    have lt_b14_b17 : b14 < b17 := Nat.lt_of_lt_of_le A14.lt (Nat.le_of_eq g17.symm)
    have g_b17 : n0 ≤ b17 := Nat.le_trans sz14 (Nat.le_of_eq g17.symm)
    have sz17 : n0 ≤ h17.size := Nat.le_trans sz14 E17.1
    have szk_b17 : h0.size ≤ b17 := Nat.le_trans K14.1 (Nat.le_of_eq g17.symm)
    have K17 : Keep h0 h17 [] := K14.ext E17
    have V17_0 : own_Arr Z h17 b17 .char [(.int (0 : Int32)), (.int (0 : Int32))] := A17
    show own_Go p e below _ T17 (mkF m 34 #[.val (.ref a1), .val (.int (2 : Int32))] [(.ref b17), (.ref b14), (.ref b14)])
    refine own_by (fun t_ k_ => XS.dup X17.here hx rfl (hb hby d2_34) rfl rfl k_) ?_
    show own_Go p e below _ T17 (mkF m 35 #[.val (.ref a1), .val (.int (2 : Int32))] [(.ref b17), (.ref b17), (.ref b14), (.ref b14)])
    refine own_by (fun t_ k_ => XS.iconst X17.here hx rfl (hb hby d2_35) k_) ?_
    show own_Go p e below _ T17 (mkF m 36 #[.val (.ref a1), .val (.int (2 : Int32))] [(.int (0 : Int32)), (.ref b17), (.ref b17), (.ref b14), (.ref b14)])
    refine own_by (fun t_ k_ => XS.aloadN X17.here hx rfl (hb hby d2_36) rfl rfl k_) ?_
    show own_Go p e below _ T17 (mkF m 37 #[.val (.ref a1), .val (.int (2 : Int32))] [(.ref a1), (.int (0 : Int32)), (.ref b17), (.ref b17), (.ref b14), (.ref b14)])
    refine own_by (fun t_ k_ => XS.iconst X17.here hx rfl (hb hby d2_37) k_) ?_
    show own_Go p e below _ T17 (mkF m 38 #[.val (.ref a1), .val (.int (2 : Int32))] [(.int (0 : Int32)), (.ref a1), (.int (0 : Int32)), (.ref b17), (.ref b17), (.ref b14), (.ref b14)])
    have V_a1_19 : own_Arr Z h17 a1 .char [(.int c0), (.int c1), (.int c2), (.int c3), (.int c4), (.int c5)] := (own_Arr.ext V_a1_18 E17)
    refine own_caload X17 hx hZ e17 V_a1_19 (v := (.int c0)) 0 (by decide) rfl (hb hby d2_38) ?_
    show own_Go p e below _ T17 (mkF m 39 #[.val (.ref a1), .val (.int (2 : Int32))] [(.int c0), (.int (0 : Int32)), (.ref b17), (.ref b17), (.ref b14), (.ref b14)])
    refine own_castoreN X17 hx hZ e17 V17_0 (own_nar (hok c0 (by simp))) 0 (by decide) (Nat.le_of_ble_eq_true rfl) (hb hby d2_39) ?_
    intro T20 h20 X20 e20 W20 A20
    have V20_0 : own_Arr Z h20 b17 .char [(.int c0), (.int (0 : Int32))] := A20
    have N20 := Fr.snoc X20 N0 g_b17
    have sz20 : n0 ≤ h20.size := Nat.le_trans sz17 (Keep.of_wr W20).1
    have K20 : Keep h0 h20 [] := K17.wr W20 (Or.inr szk_b17)
    show own_Go p e below _ T20 (mkF m 40 #[.val (.ref a1), .val (.int (2 : Int32))] [(.ref b17), (.ref b14), (.ref b14)])
    refine own_by (fun t_ k_ => XS.dup X20.here hx rfl (hb hby d2_40) rfl rfl k_) ?_
    show own_Go p e below _ T20 (mkF m 41 #[.val (.ref a1), .val (.int (2 : Int32))] [(.ref b17), (.ref b17), (.ref b14), (.ref b14)])
    refine own_by (fun t_ k_ => XS.iconst X20.here hx rfl (hb hby d2_41) k_) ?_
    show own_Go p e below _ T20 (mkF m 42 #[.val (.ref a1), .val (.int (2 : Int32))] [(.int (1 : Int32)), (.ref b17), (.ref b17), (.ref b14), (.ref b14)])
    refine own_by (fun t_ k_ => XS.aloadN X20.here hx rfl (hb hby d2_42) rfl rfl k_) ?_
    show own_Go p e below _ T20 (mkF m 43 #[.val (.ref a1), .val (.int (2 : Int32))] [(.ref a1), (.int (1 : Int32)), (.ref b17), (.ref b17), (.ref b14), (.ref b14)])
    refine own_by (fun t_ k_ => XS.iconst X20.here hx rfl (hb hby d2_43) k_) ?_
    show own_Go p e below _ T20 (mkF m 44 #[.val (.ref a1), .val (.int (2 : Int32))] [(.int (1 : Int32)), (.ref a1), (.int (1 : Int32)), (.ref b17), (.ref b17), (.ref b14), (.ref b14)])
    have V_a1_21 : own_Arr Z h20 a1 .char [(.int c0), (.int c1), (.int c2), (.int c3), (.int c4), (.int c5)] := (own_Arr.other V_a1_19 W20 (Nat.ne_of_lt lt_a1_b17))
    refine own_caload X20 hx hZ e20 V_a1_21 (v := (.int c1)) 1 (by decide) rfl (hb hby d2_44) ?_
    show own_Go p e below _ T20 (mkF m 45 #[.val (.ref a1), .val (.int (2 : Int32))] [(.int c1), (.int (1 : Int32)), (.ref b17), (.ref b17), (.ref b14), (.ref b14)])
    refine own_castoreN X20 hx hZ e20 V20_0 (own_nar (hok c1 (by simp))) 1 (by decide) (Nat.le_of_ble_eq_true rfl) (hb hby d2_45) ?_
    intro T22 h22 X22 e22 W22 A22
    have V22_0 : own_Arr Z h22 b17 .char [(.int c0), (.int c1)] := A22
    have N22 := Fr.snoc X22 N20 g_b17
    have sz22 : n0 ≤ h22.size := Nat.le_trans sz20 (Keep.of_wr W22).1
    have K22 : Keep h0 h22 [] := K20.wr W22 (Or.inr szk_b17)
    show own_Go p e below _ T22 (mkF m 46 #[.val (.ref a1), .val (.int (2 : Int32))] [(.ref b17), (.ref b14), (.ref b14)])
    have A14_23 : Exa Z h22 b14 "java/lang/String" := (Exa.wr W22 (Exa.wr W20 (Exa.ext E17 A14)))
    have F16_24 : Fld Z h22 b14 "java/lang/String" "value" "[B" .null := (Fld.other W22 (Fld.other W20 (Fld.ext E17 F16_0) (Or.inl (Nat.ne_of_lt lt_b14_b17))) (Or.inl (Nat.ne_of_lt lt_b14_b17)))
    have F15_25 : Fld Z h22 b14 "java/lang/String" "coder" "B" (.int (0 : Int32)) := (Fld.other W22 (Fld.other W20 (Fld.ext E17 F15_0) (Or.inl (Nat.ne_of_lt lt_b14_b17))) (Or.inl (Nat.ne_of_lt lt_b14_b17)))
    have S_cs_26 : Sta Z h22 "java/lang/String" "COMPACT_STRINGS" "Z" (.int cs) := (Sta.wr W22 (Sta.wr W20 (Sta.ext E17 (Sta.ext E14 S_cs))))
    obtain ⟨kq27, Kq27⟩ := own_Arr.arv V22_0 (.int 0)
    have hp27 : ∀ c ∈ ([c0, c1] : List Int32), ¬ c < 0 ∧ ¬ (255 : Int32) < c := fun c hc => hok c (List.mem_of_mem_take (i := 2) (l := [c0, c1, c2, c3, c4, c5]) hc)
    refine own_callCB (W := 1) X22 hx hZ (y := (⟨"java/lang/String", "<init>", "([C)V"⟩ : MethodName)) (kc := 1) (ks := 2) rfl hown (own_w hw 12 rfl) (own_w hw 13 rfl) (own_w hw 14 rfl) (by decide) (by rw [hml]; rfl) (argsL := [(.ref b17)]) pd_2 rfl (a := b14) (StrChars.Road.backV (W := 1) hZ hws (kI := 4) (own_w hw 10 rfl) (cs := [c0, c1]) (bs := ([c0, c1] : List Int32).map (fun c => c.toInt8.toInt32)) (n := 2) g_b14 sz22 A14_23 F16_24 F15_25 Kq27 S_cs_26 hcs rfl rfl (by decide) (by decide) hp27 rfl (by decide) (by decide)) (Nat.le_of_eq rfl) (by decide) (by decide) (rest := [(.ref b14)]) e22 rfl (hb hby d2_46) ?_
    intro v28 T28 L28 X28 hQ28
    obtain ⟨rfl, N28q, K28q, E28, C28, t28, kb28, gt28, -, -, W28, A28⟩ := hQ28
    have N28 := Fr.app N22 N28q
    have sz28 : n0 ≤ T28.heap.size := Nat.le_trans sz22 K28q.1
    have K28 : Keep h0 T28.heap [] := K22.trans K28q (allS (Or.inr szk_b14) all0)
    show own_Go p e below _ T28 (mkF m 49 #[.val (.ref a1), .val (.int (2 : Int32))] [(.ref b14)])
    refine own_retR X28 hx hlk Bd.returns rfl rfl rfl (hb hby d2_49) rfl (by decide) (by decide) ?_
    exact ⟨b14, t28, kb28, rfl, N28, K28, E28, C28, W28, A28⟩
  · show own_Go p e below _ s₁ (mkF m 0 #[.val (.ref a1), .val (.int (3 : Int32))] [])
    refine own_by (fun t_ k_ => XS.iloadN X0.here hx rfl (hb hby d2_0) rfl k_) ?_
    show own_Go p e below _ s₁ (mkF m 1 #[.val (.ref a1), .val (.int (3 : Int32))] [(.int (3 : Int32))])
    refine own_by (fun t_ k_ => XS.iconst X0.here hx rfl (hb hby d2_1) k_) ?_
    show own_Go p e below _ s₁ (mkF m 2 #[.val (.ref a1), .val (.int (3 : Int32))] [(.int (1 : Int32)), (.int (3 : Int32))])
    refine own_icmp X0 hx 22 (hb hby d2_2) (by decide) (by decide) (fun _ => ?_) (fun hc => absurd (show ¬ (3 : Int32) = (1 : Int32) from by decide) (by first | exact hc | exact not_not_intro hc))
    show own_Go p e below _ s₁ (mkF m 22 #[.val (.ref a1), .val (.int (3 : Int32))] [])
    refine own_by (fun t_ k_ => XS.iloadN X0.here hx rfl (hb hby d2_22) rfl k_) ?_
    show own_Go p e below _ s₁ (mkF m 23 #[.val (.ref a1), .val (.int (3 : Int32))] [(.int (3 : Int32))])
    refine own_by (fun t_ k_ => XS.iconst X0.here hx rfl (hb hby d2_23) k_) ?_
    show own_Go p e below _ s₁ (mkF m 24 #[.val (.ref a1), .val (.int (3 : Int32))] [(.int (2 : Int32)), (.int (3 : Int32))])
    refine own_icmp X0 hx 50 (hb hby d2_24) (by decide) (by decide) (fun _ => ?_) (fun hc => absurd (show ¬ (3 : Int32) = (2 : Int32) from by decide) (by first | exact hc | exact not_not_intro hc))
    show own_Go p e below _ s₁ (mkF m 50 #[.val (.ref a1), .val (.int (3 : Int32))] [])
    refine own_by (fun t_ k_ => XS.iloadN X0.here hx rfl (hb hby d2_50) rfl k_) ?_
    show own_Go p e below _ s₁ (mkF m 51 #[.val (.ref a1), .val (.int (3 : Int32))] [(.int (3 : Int32))])
    refine own_by (fun t_ k_ => XS.iconst X0.here hx rfl (hb hby d2_51) k_) ?_
    show own_Go p e below _ s₁ (mkF m 52 #[.val (.ref a1), .val (.int (3 : Int32))] [(.int (3 : Int32)), (.int (3 : Int32))])
    refine own_icmp X0 hx 84 (hb hby d2_52) (by decide) (by decide) (fun hc => absurd (show (3 : Int32) = (3 : Int32) from by decide) (by first | exact hc | exact not_not_intro hc)) (fun _ => ?_)
    show own_Go p e below _ s₁ (mkF m 55 #[.val (.ref a1), .val (.int (3 : Int32))] [])
    refine own_newO X0 hx hZ hown (own_w hw 9 rfl) (own_w hw 10 rfl) (own_w hw 11 rfl) e0 (hb hby d2_55) (by decide) (by decide) ?_
    intro T29 h29 b29 X29 e29 g29 E29 A29 D29
    have lt_a1_b29 : a1 < b29 := Nat.lt_of_lt_of_le V_a1.lt (Nat.le_of_eq g29.symm)
    have g_b29 : n0 ≤ b29 := Nat.le_trans Z0 (Nat.le_of_eq g29.symm)
    have sz29 : n0 ≤ h29.size := Nat.le_trans Z0 E29.1
    have szk_b29 : h0.size ≤ b29 := Nat.le_trans K0.1 (Nat.le_of_eq g29.symm)
    have K29 : Keep h0 h29 [] := K0.ext E29
    have F30_0 : Fld Z h29 b29 "java/lang/String" "coder" "B" (.int (0 : Int32)) := D29 (Or.inr (own_w hw 35 rfl)) (ty := .byte) (by decide)
    have F31_0 : Fld Z h29 b29 "java/lang/String" "value" "[B" .null := D29 (Or.inr (own_w hw 37 rfl)) (ty := (.array .byte)) (by decide)
    show own_Go p e below _ T29 (mkF m 58 #[.val (.ref a1), .val (.int (3 : Int32))] [(.ref b29)])
    refine own_by (fun t_ k_ => XS.dup X29.here hx rfl (hb hby d2_58) rfl rfl k_) ?_
    show own_Go p e below _ T29 (mkF m 59 #[.val (.ref a1), .val (.int (3 : Int32))] [(.ref b29), (.ref b29)])
    refine own_by (fun t_ k_ => XS.iconst X29.here hx rfl (hb hby d2_59) k_) ?_
    show own_Go p e below _ T29 (mkF m 60 #[.val (.ref a1), .val (.int (3 : Int32))] [(.int (3 : Int32)), (.ref b29), (.ref b29)])
    refine own_newP X29 hx hZ (own_w hw 0 rfl) e29 (hb hby d2_60) 3 3 (by decide) (by decide) (by decide) (by decide) (by decide) ?_
    intro T32 h32 b32 X32 e32 g32 E32 A32
    have V_a1_33 : own_Arr Z h29 a1 .char [(.int c0), (.int c1), (.int c2), (.int c3), (.int c4), (.int c5)] := (own_Arr.ext V_a1 E29)
    have lt_a1_b32 : a1 < b32 := Nat.lt_of_lt_of_le V_a1_33.lt (Nat.le_of_eq g32.symm)
    have lt_b29_b32 : b29 < b32 := Nat.lt_of_lt_of_le A29.lt (Nat.le_of_eq g32.symm)
    have g_b32 : n0 ≤ b32 := Nat.le_trans sz29 (Nat.le_of_eq g32.symm)
    have sz32 : n0 ≤ h32.size := Nat.le_trans sz29 E32.1
    have szk_b32 : h0.size ≤ b32 := Nat.le_trans K29.1 (Nat.le_of_eq g32.symm)
    have K32 : Keep h0 h32 [] := K29.ext E32
    have V32_0 : own_Arr Z h32 b32 .char [(.int (0 : Int32)), (.int (0 : Int32)), (.int (0 : Int32))] := A32
    show own_Go p e below _ T32 (mkF m 62 #[.val (.ref a1), .val (.int (3 : Int32))] [(.ref b32), (.ref b29), (.ref b29)])
    refine own_by (fun t_ k_ => XS.dup X32.here hx rfl (hb hby d2_62) rfl rfl k_) ?_
    show own_Go p e below _ T32 (mkF m 63 #[.val (.ref a1), .val (.int (3 : Int32))] [(.ref b32), (.ref b32), (.ref b29), (.ref b29)])
    refine own_by (fun t_ k_ => XS.iconst X32.here hx rfl (hb hby d2_63) k_) ?_
    show own_Go p e below _ T32 (mkF m 64 #[.val (.ref a1), .val (.int (3 : Int32))] [(.int (0 : Int32)), (.ref b32), (.ref b32), (.ref b29), (.ref b29)])
    refine own_by (fun t_ k_ => XS.aloadN X32.here hx rfl (hb hby d2_64) rfl rfl k_) ?_
    show own_Go p e below _ T32 (mkF m 65 #[.val (.ref a1), .val (.int (3 : Int32))] [(.ref a1), (.int (0 : Int32)), (.ref b32), (.ref b32), (.ref b29), (.ref b29)])
    refine own_by (fun t_ k_ => XS.iconst X32.here hx rfl (hb hby d2_65) k_) ?_
    show own_Go p e below _ T32 (mkF m 66 #[.val (.ref a1), .val (.int (3 : Int32))] [(.int (0 : Int32)), (.ref a1), (.int (0 : Int32)), (.ref b32), (.ref b32), (.ref b29), (.ref b29)])
    have V_a1_34 : own_Arr Z h32 a1 .char [(.int c0), (.int c1), (.int c2), (.int c3), (.int c4), (.int c5)] := (own_Arr.ext V_a1_33 E32)
    refine own_caload X32 hx hZ e32 V_a1_34 (v := (.int c0)) 0 (by decide) rfl (hb hby d2_66) ?_
    show own_Go p e below _ T32 (mkF m 67 #[.val (.ref a1), .val (.int (3 : Int32))] [(.int c0), (.int (0 : Int32)), (.ref b32), (.ref b32), (.ref b29), (.ref b29)])
    refine own_castoreN X32 hx hZ e32 V32_0 (own_nar (hok c0 (by simp))) 0 (by decide) (Nat.le_of_ble_eq_true rfl) (hb hby d2_67) ?_
    intro T35 h35 X35 e35 W35 A35
    have V35_0 : own_Arr Z h35 b32 .char [(.int c0), (.int (0 : Int32)), (.int (0 : Int32))] := A35
    have N35 := Fr.snoc X35 N0 g_b32
    have sz35 : n0 ≤ h35.size := Nat.le_trans sz32 (Keep.of_wr W35).1
    have K35 : Keep h0 h35 [] := K32.wr W35 (Or.inr szk_b32)
    show own_Go p e below _ T35 (mkF m 68 #[.val (.ref a1), .val (.int (3 : Int32))] [(.ref b32), (.ref b29), (.ref b29)])
    refine own_by (fun t_ k_ => XS.dup X35.here hx rfl (hb hby d2_68) rfl rfl k_) ?_
    show own_Go p e below _ T35 (mkF m 69 #[.val (.ref a1), .val (.int (3 : Int32))] [(.ref b32), (.ref b32), (.ref b29), (.ref b29)])
    refine own_by (fun t_ k_ => XS.iconst X35.here hx rfl (hb hby d2_69) k_) ?_
    show own_Go p e below _ T35 (mkF m 70 #[.val (.ref a1), .val (.int (3 : Int32))] [(.int (1 : Int32)), (.ref b32), (.ref b32), (.ref b29), (.ref b29)])
    refine own_by (fun t_ k_ => XS.aloadN X35.here hx rfl (hb hby d2_70) rfl rfl k_) ?_
    show own_Go p e below _ T35 (mkF m 71 #[.val (.ref a1), .val (.int (3 : Int32))] [(.ref a1), (.int (1 : Int32)), (.ref b32), (.ref b32), (.ref b29), (.ref b29)])
    refine own_by (fun t_ k_ => XS.iconst X35.here hx rfl (hb hby d2_71) k_) ?_
    show own_Go p e below _ T35 (mkF m 72 #[.val (.ref a1), .val (.int (3 : Int32))] [(.int (1 : Int32)), (.ref a1), (.int (1 : Int32)), (.ref b32), (.ref b32), (.ref b29), (.ref b29)])
    have V_a1_36 : own_Arr Z h35 a1 .char [(.int c0), (.int c1), (.int c2), (.int c3), (.int c4), (.int c5)] := (own_Arr.other V_a1_34 W35 (Nat.ne_of_lt lt_a1_b32))
    refine own_caload X35 hx hZ e35 V_a1_36 (v := (.int c1)) 1 (by decide) rfl (hb hby d2_72) ?_
    show own_Go p e below _ T35 (mkF m 73 #[.val (.ref a1), .val (.int (3 : Int32))] [(.int c1), (.int (1 : Int32)), (.ref b32), (.ref b32), (.ref b29), (.ref b29)])
    refine own_castoreN X35 hx hZ e35 V35_0 (own_nar (hok c1 (by simp))) 1 (by decide) (Nat.le_of_ble_eq_true rfl) (hb hby d2_73) ?_
    intro T37 h37 X37 e37 W37 A37
    have V37_0 : own_Arr Z h37 b32 .char [(.int c0), (.int c1), (.int (0 : Int32))] := A37
    have N37 := Fr.snoc X37 N35 g_b32
    have sz37 : n0 ≤ h37.size := Nat.le_trans sz35 (Keep.of_wr W37).1
    have K37 : Keep h0 h37 [] := K35.wr W37 (Or.inr szk_b32)
    show own_Go p e below _ T37 (mkF m 74 #[.val (.ref a1), .val (.int (3 : Int32))] [(.ref b32), (.ref b29), (.ref b29)])
    refine own_by (fun t_ k_ => XS.dup X37.here hx rfl (hb hby d2_74) rfl rfl k_) ?_
    show own_Go p e below _ T37 (mkF m 75 #[.val (.ref a1), .val (.int (3 : Int32))] [(.ref b32), (.ref b32), (.ref b29), (.ref b29)])
    refine own_by (fun t_ k_ => XS.iconst X37.here hx rfl (hb hby d2_75) k_) ?_
    show own_Go p e below _ T37 (mkF m 76 #[.val (.ref a1), .val (.int (3 : Int32))] [(.int (2 : Int32)), (.ref b32), (.ref b32), (.ref b29), (.ref b29)])
    refine own_by (fun t_ k_ => XS.aloadN X37.here hx rfl (hb hby d2_76) rfl rfl k_) ?_
    show own_Go p e below _ T37 (mkF m 77 #[.val (.ref a1), .val (.int (3 : Int32))] [(.ref a1), (.int (2 : Int32)), (.ref b32), (.ref b32), (.ref b29), (.ref b29)])
    refine own_by (fun t_ k_ => XS.iconst X37.here hx rfl (hb hby d2_77) k_) ?_
    show own_Go p e below _ T37 (mkF m 78 #[.val (.ref a1), .val (.int (3 : Int32))] [(.int (2 : Int32)), (.ref a1), (.int (2 : Int32)), (.ref b32), (.ref b32), (.ref b29), (.ref b29)])
    have V_a1_38 : own_Arr Z h37 a1 .char [(.int c0), (.int c1), (.int c2), (.int c3), (.int c4), (.int c5)] := (own_Arr.other V_a1_36 W37 (Nat.ne_of_lt lt_a1_b32))
    refine own_caload X37 hx hZ e37 V_a1_38 (v := (.int c2)) 2 (by decide) rfl (hb hby d2_78) ?_
    show own_Go p e below _ T37 (mkF m 79 #[.val (.ref a1), .val (.int (3 : Int32))] [(.int c2), (.int (2 : Int32)), (.ref b32), (.ref b32), (.ref b29), (.ref b29)])
    refine own_castoreN X37 hx hZ e37 V37_0 (own_nar (hok c2 (by simp))) 2 (by decide) (Nat.le_of_ble_eq_true rfl) (hb hby d2_79) ?_
    intro T39 h39 X39 e39 W39 A39
    have V39_0 : own_Arr Z h39 b32 .char [(.int c0), (.int c1), (.int c2)] := A39
    have N39 := Fr.snoc X39 N37 g_b32
    have sz39 : n0 ≤ h39.size := Nat.le_trans sz37 (Keep.of_wr W39).1
    have K39 : Keep h0 h39 [] := K37.wr W39 (Or.inr szk_b32)
    show own_Go p e below _ T39 (mkF m 80 #[.val (.ref a1), .val (.int (3 : Int32))] [(.ref b32), (.ref b29), (.ref b29)])
    have A29_40 : Exa Z h39 b29 "java/lang/String" := (Exa.wr W39 (Exa.wr W37 (Exa.wr W35 (Exa.ext E32 A29))))
    have F31_41 : Fld Z h39 b29 "java/lang/String" "value" "[B" .null := (Fld.other W39 (Fld.other W37 (Fld.other W35 (Fld.ext E32 F31_0) (Or.inl (Nat.ne_of_lt lt_b29_b32))) (Or.inl (Nat.ne_of_lt lt_b29_b32))) (Or.inl (Nat.ne_of_lt lt_b29_b32)))
    have F30_42 : Fld Z h39 b29 "java/lang/String" "coder" "B" (.int (0 : Int32)) := (Fld.other W39 (Fld.other W37 (Fld.other W35 (Fld.ext E32 F30_0) (Or.inl (Nat.ne_of_lt lt_b29_b32))) (Or.inl (Nat.ne_of_lt lt_b29_b32))) (Or.inl (Nat.ne_of_lt lt_b29_b32)))
    have S_cs_43 : Sta Z h39 "java/lang/String" "COMPACT_STRINGS" "Z" (.int cs) := (Sta.wr W39 (Sta.wr W37 (Sta.wr W35 (Sta.ext E32 (Sta.ext E29 S_cs)))))
    obtain ⟨kq44, Kq44⟩ := own_Arr.arv V39_0 (.int 0)
    have hp44 : ∀ c ∈ ([c0, c1, c2] : List Int32), ¬ c < 0 ∧ ¬ (255 : Int32) < c := fun c hc => hok c (List.mem_of_mem_take (i := 3) (l := [c0, c1, c2, c3, c4, c5]) hc)
    refine own_callCB (W := 1) X39 hx hZ (y := (⟨"java/lang/String", "<init>", "([C)V"⟩ : MethodName)) (kc := 1) (ks := 3) rfl hown (own_w hw 12 rfl) (own_w hw 13 rfl) (own_w hw 14 rfl) (by decide) (by rw [hml]; rfl) (argsL := [(.ref b32)]) pd_2 rfl (a := b29) (StrChars.Road.backV (W := 1) hZ hws (kI := 4) (own_w hw 10 rfl) (cs := [c0, c1, c2]) (bs := ([c0, c1, c2] : List Int32).map (fun c => c.toInt8.toInt32)) (n := 3) g_b29 sz39 A29_40 F31_41 F30_42 Kq44 S_cs_43 hcs rfl rfl (by decide) (by decide) hp44 rfl (by decide) (by decide)) (Nat.le_of_eq rfl) (by decide) (by decide) (rest := [(.ref b29)]) e39 rfl (hb hby d2_80) ?_
    intro v45 T45 L45 X45 hQ45
    obtain ⟨rfl, N45q, K45q, E45, C45, t45, kb45, gt45, -, -, W45, A45⟩ := hQ45
    have N45 := Fr.app N39 N45q
    have sz45 : n0 ≤ T45.heap.size := Nat.le_trans sz39 K45q.1
    have K45 : Keep h0 T45.heap [] := K39.trans K45q (allS (Or.inr szk_b29) all0)
    show own_Go p e below _ T45 (mkF m 83 #[.val (.ref a1), .val (.int (3 : Int32))] [(.ref b29)])
    refine own_retR X45 hx hlk Bd.returns rfl rfl rfl (hb hby d2_83) rfl (by decide) (by decide) ?_
    exact ⟨b29, t45, kb45, rfl, N45, K45, E45, C45, W45, A45⟩
  · show own_Go p e below _ s₁ (mkF m 0 #[.val (.ref a1), .val (.int (4 : Int32))] [])
    refine own_by (fun t_ k_ => XS.iloadN X0.here hx rfl (hb hby d2_0) rfl k_) ?_
    show own_Go p e below _ s₁ (mkF m 1 #[.val (.ref a1), .val (.int (4 : Int32))] [(.int (4 : Int32))])
    refine own_by (fun t_ k_ => XS.iconst X0.here hx rfl (hb hby d2_1) k_) ?_
    show own_Go p e below _ s₁ (mkF m 2 #[.val (.ref a1), .val (.int (4 : Int32))] [(.int (1 : Int32)), (.int (4 : Int32))])
    refine own_icmp X0 hx 22 (hb hby d2_2) (by decide) (by decide) (fun _ => ?_) (fun hc => absurd (show ¬ (4 : Int32) = (1 : Int32) from by decide) (by first | exact hc | exact not_not_intro hc))
    show own_Go p e below _ s₁ (mkF m 22 #[.val (.ref a1), .val (.int (4 : Int32))] [])
    refine own_by (fun t_ k_ => XS.iloadN X0.here hx rfl (hb hby d2_22) rfl k_) ?_
    show own_Go p e below _ s₁ (mkF m 23 #[.val (.ref a1), .val (.int (4 : Int32))] [(.int (4 : Int32))])
    refine own_by (fun t_ k_ => XS.iconst X0.here hx rfl (hb hby d2_23) k_) ?_
    show own_Go p e below _ s₁ (mkF m 24 #[.val (.ref a1), .val (.int (4 : Int32))] [(.int (2 : Int32)), (.int (4 : Int32))])
    refine own_icmp X0 hx 50 (hb hby d2_24) (by decide) (by decide) (fun _ => ?_) (fun hc => absurd (show ¬ (4 : Int32) = (2 : Int32) from by decide) (by first | exact hc | exact not_not_intro hc))
    show own_Go p e below _ s₁ (mkF m 50 #[.val (.ref a1), .val (.int (4 : Int32))] [])
    refine own_by (fun t_ k_ => XS.iloadN X0.here hx rfl (hb hby d2_50) rfl k_) ?_
    show own_Go p e below _ s₁ (mkF m 51 #[.val (.ref a1), .val (.int (4 : Int32))] [(.int (4 : Int32))])
    refine own_by (fun t_ k_ => XS.iconst X0.here hx rfl (hb hby d2_51) k_) ?_
    show own_Go p e below _ s₁ (mkF m 52 #[.val (.ref a1), .val (.int (4 : Int32))] [(.int (3 : Int32)), (.int (4 : Int32))])
    refine own_icmp X0 hx 84 (hb hby d2_52) (by decide) (by decide) (fun _ => ?_) (fun hc => absurd (show ¬ (4 : Int32) = (3 : Int32) from by decide) (by first | exact hc | exact not_not_intro hc))
    show own_Go p e below _ s₁ (mkF m 84 #[.val (.ref a1), .val (.int (4 : Int32))] [])
    refine own_by (fun t_ k_ => XS.iloadN X0.here hx rfl (hb hby d2_84) rfl k_) ?_
    show own_Go p e below _ s₁ (mkF m 85 #[.val (.ref a1), .val (.int (4 : Int32))] [(.int (4 : Int32))])
    refine own_by (fun t_ k_ => XS.iconst X0.here hx rfl (hb hby d2_85) k_) ?_
    show own_Go p e below _ s₁ (mkF m 86 #[.val (.ref a1), .val (.int (4 : Int32))] [(.int (4 : Int32)), (.int (4 : Int32))])
    refine own_icmp X0 hx 124 (hb hby d2_86) (by decide) (by decide) (fun hc => absurd (show (4 : Int32) = (4 : Int32) from by decide) (by first | exact hc | exact not_not_intro hc)) (fun _ => ?_)
    show own_Go p e below _ s₁ (mkF m 89 #[.val (.ref a1), .val (.int (4 : Int32))] [])
    refine own_newO X0 hx hZ hown (own_w hw 9 rfl) (own_w hw 10 rfl) (own_w hw 11 rfl) e0 (hb hby d2_89) (by decide) (by decide) ?_
    intro T46 h46 b46 X46 e46 g46 E46 A46 D46
    have lt_a1_b46 : a1 < b46 := Nat.lt_of_lt_of_le V_a1.lt (Nat.le_of_eq g46.symm)
    have g_b46 : n0 ≤ b46 := Nat.le_trans Z0 (Nat.le_of_eq g46.symm)
    have sz46 : n0 ≤ h46.size := Nat.le_trans Z0 E46.1
    have szk_b46 : h0.size ≤ b46 := Nat.le_trans K0.1 (Nat.le_of_eq g46.symm)
    have K46 : Keep h0 h46 [] := K0.ext E46
    have F47_0 : Fld Z h46 b46 "java/lang/String" "coder" "B" (.int (0 : Int32)) := D46 (Or.inr (own_w hw 35 rfl)) (ty := .byte) (by decide)
    have F48_0 : Fld Z h46 b46 "java/lang/String" "value" "[B" .null := D46 (Or.inr (own_w hw 37 rfl)) (ty := (.array .byte)) (by decide)
    show own_Go p e below _ T46 (mkF m 92 #[.val (.ref a1), .val (.int (4 : Int32))] [(.ref b46)])
    refine own_by (fun t_ k_ => XS.dup X46.here hx rfl (hb hby d2_92) rfl rfl k_) ?_
    show own_Go p e below _ T46 (mkF m 93 #[.val (.ref a1), .val (.int (4 : Int32))] [(.ref b46), (.ref b46)])
    refine own_by (fun t_ k_ => XS.iconst X46.here hx rfl (hb hby d2_93) k_) ?_
    show own_Go p e below _ T46 (mkF m 94 #[.val (.ref a1), .val (.int (4 : Int32))] [(.int (4 : Int32)), (.ref b46), (.ref b46)])
    refine own_newP X46 hx hZ (own_w hw 0 rfl) e46 (hb hby d2_94) 4 4 (by decide) (by decide) (by decide) (by decide) (by decide) ?_
    intro T49 h49 b49 X49 e49 g49 E49 A49
    have V_a1_50 : own_Arr Z h46 a1 .char [(.int c0), (.int c1), (.int c2), (.int c3), (.int c4), (.int c5)] := (own_Arr.ext V_a1 E46)
    have lt_a1_b49 : a1 < b49 := Nat.lt_of_lt_of_le V_a1_50.lt (Nat.le_of_eq g49.symm)
    have lt_b46_b49 : b46 < b49 := Nat.lt_of_lt_of_le A46.lt (Nat.le_of_eq g49.symm)
    have g_b49 : n0 ≤ b49 := Nat.le_trans sz46 (Nat.le_of_eq g49.symm)
    have sz49 : n0 ≤ h49.size := Nat.le_trans sz46 E49.1
    have szk_b49 : h0.size ≤ b49 := Nat.le_trans K46.1 (Nat.le_of_eq g49.symm)
    have K49 : Keep h0 h49 [] := K46.ext E49
    have V49_0 : own_Arr Z h49 b49 .char [(.int (0 : Int32)), (.int (0 : Int32)), (.int (0 : Int32)), (.int (0 : Int32))] := A49
    show own_Go p e below _ T49 (mkF m 96 #[.val (.ref a1), .val (.int (4 : Int32))] [(.ref b49), (.ref b46), (.ref b46)])
    refine own_by (fun t_ k_ => XS.dup X49.here hx rfl (hb hby d2_96) rfl rfl k_) ?_
    show own_Go p e below _ T49 (mkF m 97 #[.val (.ref a1), .val (.int (4 : Int32))] [(.ref b49), (.ref b49), (.ref b46), (.ref b46)])
    refine own_by (fun t_ k_ => XS.iconst X49.here hx rfl (hb hby d2_97) k_) ?_
    show own_Go p e below _ T49 (mkF m 98 #[.val (.ref a1), .val (.int (4 : Int32))] [(.int (0 : Int32)), (.ref b49), (.ref b49), (.ref b46), (.ref b46)])
    refine own_by (fun t_ k_ => XS.aloadN X49.here hx rfl (hb hby d2_98) rfl rfl k_) ?_
    show own_Go p e below _ T49 (mkF m 99 #[.val (.ref a1), .val (.int (4 : Int32))] [(.ref a1), (.int (0 : Int32)), (.ref b49), (.ref b49), (.ref b46), (.ref b46)])
    refine own_by (fun t_ k_ => XS.iconst X49.here hx rfl (hb hby d2_99) k_) ?_
    show own_Go p e below _ T49 (mkF m 100 #[.val (.ref a1), .val (.int (4 : Int32))] [(.int (0 : Int32)), (.ref a1), (.int (0 : Int32)), (.ref b49), (.ref b49), (.ref b46), (.ref b46)])
    have V_a1_51 : own_Arr Z h49 a1 .char [(.int c0), (.int c1), (.int c2), (.int c3), (.int c4), (.int c5)] := (own_Arr.ext V_a1_50 E49)
    refine own_caload X49 hx hZ e49 V_a1_51 (v := (.int c0)) 0 (by decide) rfl (hb hby d2_100) ?_
    show own_Go p e below _ T49 (mkF m 101 #[.val (.ref a1), .val (.int (4 : Int32))] [(.int c0), (.int (0 : Int32)), (.ref b49), (.ref b49), (.ref b46), (.ref b46)])
    refine own_castoreN X49 hx hZ e49 V49_0 (own_nar (hok c0 (by simp))) 0 (by decide) (Nat.le_of_ble_eq_true rfl) (hb hby d2_101) ?_
    intro T52 h52 X52 e52 W52 A52
    have V52_0 : own_Arr Z h52 b49 .char [(.int c0), (.int (0 : Int32)), (.int (0 : Int32)), (.int (0 : Int32))] := A52
    have N52 := Fr.snoc X52 N0 g_b49
    have sz52 : n0 ≤ h52.size := Nat.le_trans sz49 (Keep.of_wr W52).1
    have K52 : Keep h0 h52 [] := K49.wr W52 (Or.inr szk_b49)
    show own_Go p e below _ T52 (mkF m 102 #[.val (.ref a1), .val (.int (4 : Int32))] [(.ref b49), (.ref b46), (.ref b46)])
    refine own_by (fun t_ k_ => XS.dup X52.here hx rfl (hb hby d2_102) rfl rfl k_) ?_
    show own_Go p e below _ T52 (mkF m 103 #[.val (.ref a1), .val (.int (4 : Int32))] [(.ref b49), (.ref b49), (.ref b46), (.ref b46)])
    refine own_by (fun t_ k_ => XS.iconst X52.here hx rfl (hb hby d2_103) k_) ?_
    show own_Go p e below _ T52 (mkF m 104 #[.val (.ref a1), .val (.int (4 : Int32))] [(.int (1 : Int32)), (.ref b49), (.ref b49), (.ref b46), (.ref b46)])
    refine own_by (fun t_ k_ => XS.aloadN X52.here hx rfl (hb hby d2_104) rfl rfl k_) ?_
    show own_Go p e below _ T52 (mkF m 105 #[.val (.ref a1), .val (.int (4 : Int32))] [(.ref a1), (.int (1 : Int32)), (.ref b49), (.ref b49), (.ref b46), (.ref b46)])
    refine own_by (fun t_ k_ => XS.iconst X52.here hx rfl (hb hby d2_105) k_) ?_
    show own_Go p e below _ T52 (mkF m 106 #[.val (.ref a1), .val (.int (4 : Int32))] [(.int (1 : Int32)), (.ref a1), (.int (1 : Int32)), (.ref b49), (.ref b49), (.ref b46), (.ref b46)])
    have V_a1_53 : own_Arr Z h52 a1 .char [(.int c0), (.int c1), (.int c2), (.int c3), (.int c4), (.int c5)] := (own_Arr.other V_a1_51 W52 (Nat.ne_of_lt lt_a1_b49))
    refine own_caload X52 hx hZ e52 V_a1_53 (v := (.int c1)) 1 (by decide) rfl (hb hby d2_106) ?_
    show own_Go p e below _ T52 (mkF m 107 #[.val (.ref a1), .val (.int (4 : Int32))] [(.int c1), (.int (1 : Int32)), (.ref b49), (.ref b49), (.ref b46), (.ref b46)])
    refine own_castoreN X52 hx hZ e52 V52_0 (own_nar (hok c1 (by simp))) 1 (by decide) (Nat.le_of_ble_eq_true rfl) (hb hby d2_107) ?_
    intro T54 h54 X54 e54 W54 A54
    have V54_0 : own_Arr Z h54 b49 .char [(.int c0), (.int c1), (.int (0 : Int32)), (.int (0 : Int32))] := A54
    have N54 := Fr.snoc X54 N52 g_b49
    have sz54 : n0 ≤ h54.size := Nat.le_trans sz52 (Keep.of_wr W54).1
    have K54 : Keep h0 h54 [] := K52.wr W54 (Or.inr szk_b49)
    show own_Go p e below _ T54 (mkF m 108 #[.val (.ref a1), .val (.int (4 : Int32))] [(.ref b49), (.ref b46), (.ref b46)])
    refine own_by (fun t_ k_ => XS.dup X54.here hx rfl (hb hby d2_108) rfl rfl k_) ?_
    show own_Go p e below _ T54 (mkF m 109 #[.val (.ref a1), .val (.int (4 : Int32))] [(.ref b49), (.ref b49), (.ref b46), (.ref b46)])
    refine own_by (fun t_ k_ => XS.iconst X54.here hx rfl (hb hby d2_109) k_) ?_
    show own_Go p e below _ T54 (mkF m 110 #[.val (.ref a1), .val (.int (4 : Int32))] [(.int (2 : Int32)), (.ref b49), (.ref b49), (.ref b46), (.ref b46)])
    refine own_by (fun t_ k_ => XS.aloadN X54.here hx rfl (hb hby d2_110) rfl rfl k_) ?_
    show own_Go p e below _ T54 (mkF m 111 #[.val (.ref a1), .val (.int (4 : Int32))] [(.ref a1), (.int (2 : Int32)), (.ref b49), (.ref b49), (.ref b46), (.ref b46)])
    refine own_by (fun t_ k_ => XS.iconst X54.here hx rfl (hb hby d2_111) k_) ?_
    show own_Go p e below _ T54 (mkF m 112 #[.val (.ref a1), .val (.int (4 : Int32))] [(.int (2 : Int32)), (.ref a1), (.int (2 : Int32)), (.ref b49), (.ref b49), (.ref b46), (.ref b46)])
    have V_a1_55 : own_Arr Z h54 a1 .char [(.int c0), (.int c1), (.int c2), (.int c3), (.int c4), (.int c5)] := (own_Arr.other V_a1_53 W54 (Nat.ne_of_lt lt_a1_b49))
    refine own_caload X54 hx hZ e54 V_a1_55 (v := (.int c2)) 2 (by decide) rfl (hb hby d2_112) ?_
    show own_Go p e below _ T54 (mkF m 113 #[.val (.ref a1), .val (.int (4 : Int32))] [(.int c2), (.int (2 : Int32)), (.ref b49), (.ref b49), (.ref b46), (.ref b46)])
    refine own_castoreN X54 hx hZ e54 V54_0 (own_nar (hok c2 (by simp))) 2 (by decide) (Nat.le_of_ble_eq_true rfl) (hb hby d2_113) ?_
    intro T56 h56 X56 e56 W56 A56
    have V56_0 : own_Arr Z h56 b49 .char [(.int c0), (.int c1), (.int c2), (.int (0 : Int32))] := A56
    have N56 := Fr.snoc X56 N54 g_b49
    have sz56 : n0 ≤ h56.size := Nat.le_trans sz54 (Keep.of_wr W56).1
    have K56 : Keep h0 h56 [] := K54.wr W56 (Or.inr szk_b49)
    show own_Go p e below _ T56 (mkF m 114 #[.val (.ref a1), .val (.int (4 : Int32))] [(.ref b49), (.ref b46), (.ref b46)])
    refine own_by (fun t_ k_ => XS.dup X56.here hx rfl (hb hby d2_114) rfl rfl k_) ?_
    show own_Go p e below _ T56 (mkF m 115 #[.val (.ref a1), .val (.int (4 : Int32))] [(.ref b49), (.ref b49), (.ref b46), (.ref b46)])
    refine own_by (fun t_ k_ => XS.iconst X56.here hx rfl (hb hby d2_115) k_) ?_
    show own_Go p e below _ T56 (mkF m 116 #[.val (.ref a1), .val (.int (4 : Int32))] [(.int (3 : Int32)), (.ref b49), (.ref b49), (.ref b46), (.ref b46)])
    refine own_by (fun t_ k_ => XS.aloadN X56.here hx rfl (hb hby d2_116) rfl rfl k_) ?_
    show own_Go p e below _ T56 (mkF m 117 #[.val (.ref a1), .val (.int (4 : Int32))] [(.ref a1), (.int (3 : Int32)), (.ref b49), (.ref b49), (.ref b46), (.ref b46)])
    refine own_by (fun t_ k_ => XS.iconst X56.here hx rfl (hb hby d2_117) k_) ?_
    show own_Go p e below _ T56 (mkF m 118 #[.val (.ref a1), .val (.int (4 : Int32))] [(.int (3 : Int32)), (.ref a1), (.int (3 : Int32)), (.ref b49), (.ref b49), (.ref b46), (.ref b46)])
    have V_a1_57 : own_Arr Z h56 a1 .char [(.int c0), (.int c1), (.int c2), (.int c3), (.int c4), (.int c5)] := (own_Arr.other V_a1_55 W56 (Nat.ne_of_lt lt_a1_b49))
    refine own_caload X56 hx hZ e56 V_a1_57 (v := (.int c3)) 3 (by decide) rfl (hb hby d2_118) ?_
    show own_Go p e below _ T56 (mkF m 119 #[.val (.ref a1), .val (.int (4 : Int32))] [(.int c3), (.int (3 : Int32)), (.ref b49), (.ref b49), (.ref b46), (.ref b46)])
    refine own_castoreN X56 hx hZ e56 V56_0 (own_nar (hok c3 (by simp))) 3 (by decide) (Nat.le_of_ble_eq_true rfl) (hb hby d2_119) ?_
    intro T58 h58 X58 e58 W58 A58
    have V58_0 : own_Arr Z h58 b49 .char [(.int c0), (.int c1), (.int c2), (.int c3)] := A58
    have N58 := Fr.snoc X58 N56 g_b49
    have sz58 : n0 ≤ h58.size := Nat.le_trans sz56 (Keep.of_wr W58).1
    have K58 : Keep h0 h58 [] := K56.wr W58 (Or.inr szk_b49)
    show own_Go p e below _ T58 (mkF m 120 #[.val (.ref a1), .val (.int (4 : Int32))] [(.ref b49), (.ref b46), (.ref b46)])
    have A46_59 : Exa Z h58 b46 "java/lang/String" := (Exa.wr W58 (Exa.wr W56 (Exa.wr W54 (Exa.wr W52 (Exa.ext E49 A46)))))
    have F48_60 : Fld Z h58 b46 "java/lang/String" "value" "[B" .null := (Fld.other W58 (Fld.other W56 (Fld.other W54 (Fld.other W52 (Fld.ext E49 F48_0) (Or.inl (Nat.ne_of_lt lt_b46_b49))) (Or.inl (Nat.ne_of_lt lt_b46_b49))) (Or.inl (Nat.ne_of_lt lt_b46_b49))) (Or.inl (Nat.ne_of_lt lt_b46_b49)))
    have F47_61 : Fld Z h58 b46 "java/lang/String" "coder" "B" (.int (0 : Int32)) := (Fld.other W58 (Fld.other W56 (Fld.other W54 (Fld.other W52 (Fld.ext E49 F47_0) (Or.inl (Nat.ne_of_lt lt_b46_b49))) (Or.inl (Nat.ne_of_lt lt_b46_b49))) (Or.inl (Nat.ne_of_lt lt_b46_b49))) (Or.inl (Nat.ne_of_lt lt_b46_b49)))
    have S_cs_62 : Sta Z h58 "java/lang/String" "COMPACT_STRINGS" "Z" (.int cs) := (Sta.wr W58 (Sta.wr W56 (Sta.wr W54 (Sta.wr W52 (Sta.ext E49 (Sta.ext E46 S_cs))))))
    obtain ⟨kq63, Kq63⟩ := own_Arr.arv V58_0 (.int 0)
    have hp63 : ∀ c ∈ ([c0, c1, c2, c3] : List Int32), ¬ c < 0 ∧ ¬ (255 : Int32) < c := fun c hc => hok c (List.mem_of_mem_take (i := 4) (l := [c0, c1, c2, c3, c4, c5]) hc)
    refine own_callCB (W := 1) X58 hx hZ (y := (⟨"java/lang/String", "<init>", "([C)V"⟩ : MethodName)) (kc := 1) (ks := 4) rfl hown (own_w hw 12 rfl) (own_w hw 13 rfl) (own_w hw 14 rfl) (by decide) (by rw [hml]; rfl) (argsL := [(.ref b49)]) pd_2 rfl (a := b46) (StrChars.Road.backV (W := 1) hZ hws (kI := 4) (own_w hw 10 rfl) (cs := [c0, c1, c2, c3]) (bs := ([c0, c1, c2, c3] : List Int32).map (fun c => c.toInt8.toInt32)) (n := 4) g_b46 sz58 A46_59 F48_60 F47_61 Kq63 S_cs_62 hcs rfl rfl (by decide) (by decide) hp63 rfl (by decide) (by decide)) (Nat.le_of_eq rfl) (by decide) (by decide) (rest := [(.ref b46)]) e58 rfl (hb hby d2_120) ?_
    intro v64 T64 L64 X64 hQ64
    obtain ⟨rfl, N64q, K64q, E64, C64, t64, kb64, gt64, -, -, W64, A64⟩ := hQ64
    have N64 := Fr.app N58 N64q
    have sz64 : n0 ≤ T64.heap.size := Nat.le_trans sz58 K64q.1
    have K64 : Keep h0 T64.heap [] := K58.trans K64q (allS (Or.inr szk_b46) all0)
    show own_Go p e below _ T64 (mkF m 123 #[.val (.ref a1), .val (.int (4 : Int32))] [(.ref b46)])
    refine own_retR X64 hx hlk Bd.returns rfl rfl rfl (hb hby d2_123) rfl (by decide) (by decide) ?_
    exact ⟨b46, t64, kb64, rfl, N64, K64, E64, C64, W64, A64⟩
  · show own_Go p e below _ s₁ (mkF m 0 #[.val (.ref a1), .val (.int (5 : Int32))] [])
    refine own_by (fun t_ k_ => XS.iloadN X0.here hx rfl (hb hby d2_0) rfl k_) ?_
    show own_Go p e below _ s₁ (mkF m 1 #[.val (.ref a1), .val (.int (5 : Int32))] [(.int (5 : Int32))])
    refine own_by (fun t_ k_ => XS.iconst X0.here hx rfl (hb hby d2_1) k_) ?_
    show own_Go p e below _ s₁ (mkF m 2 #[.val (.ref a1), .val (.int (5 : Int32))] [(.int (1 : Int32)), (.int (5 : Int32))])
    refine own_icmp X0 hx 22 (hb hby d2_2) (by decide) (by decide) (fun _ => ?_) (fun hc => absurd (show ¬ (5 : Int32) = (1 : Int32) from by decide) (by first | exact hc | exact not_not_intro hc))
    show own_Go p e below _ s₁ (mkF m 22 #[.val (.ref a1), .val (.int (5 : Int32))] [])
    refine own_by (fun t_ k_ => XS.iloadN X0.here hx rfl (hb hby d2_22) rfl k_) ?_
    show own_Go p e below _ s₁ (mkF m 23 #[.val (.ref a1), .val (.int (5 : Int32))] [(.int (5 : Int32))])
    refine own_by (fun t_ k_ => XS.iconst X0.here hx rfl (hb hby d2_23) k_) ?_
    show own_Go p e below _ s₁ (mkF m 24 #[.val (.ref a1), .val (.int (5 : Int32))] [(.int (2 : Int32)), (.int (5 : Int32))])
    refine own_icmp X0 hx 50 (hb hby d2_24) (by decide) (by decide) (fun _ => ?_) (fun hc => absurd (show ¬ (5 : Int32) = (2 : Int32) from by decide) (by first | exact hc | exact not_not_intro hc))
    show own_Go p e below _ s₁ (mkF m 50 #[.val (.ref a1), .val (.int (5 : Int32))] [])
    refine own_by (fun t_ k_ => XS.iloadN X0.here hx rfl (hb hby d2_50) rfl k_) ?_
    show own_Go p e below _ s₁ (mkF m 51 #[.val (.ref a1), .val (.int (5 : Int32))] [(.int (5 : Int32))])
    refine own_by (fun t_ k_ => XS.iconst X0.here hx rfl (hb hby d2_51) k_) ?_
    show own_Go p e below _ s₁ (mkF m 52 #[.val (.ref a1), .val (.int (5 : Int32))] [(.int (3 : Int32)), (.int (5 : Int32))])
    refine own_icmp X0 hx 84 (hb hby d2_52) (by decide) (by decide) (fun _ => ?_) (fun hc => absurd (show ¬ (5 : Int32) = (3 : Int32) from by decide) (by first | exact hc | exact not_not_intro hc))
    show own_Go p e below _ s₁ (mkF m 84 #[.val (.ref a1), .val (.int (5 : Int32))] [])
    refine own_by (fun t_ k_ => XS.iloadN X0.here hx rfl (hb hby d2_84) rfl k_) ?_
    show own_Go p e below _ s₁ (mkF m 85 #[.val (.ref a1), .val (.int (5 : Int32))] [(.int (5 : Int32))])
    refine own_by (fun t_ k_ => XS.iconst X0.here hx rfl (hb hby d2_85) k_) ?_
    show own_Go p e below _ s₁ (mkF m 86 #[.val (.ref a1), .val (.int (5 : Int32))] [(.int (4 : Int32)), (.int (5 : Int32))])
    refine own_icmp X0 hx 124 (hb hby d2_86) (by decide) (by decide) (fun _ => ?_) (fun hc => absurd (show ¬ (5 : Int32) = (4 : Int32) from by decide) (by first | exact hc | exact not_not_intro hc))
    show own_Go p e below _ s₁ (mkF m 124 #[.val (.ref a1), .val (.int (5 : Int32))] [])
    refine own_by (fun t_ k_ => XS.iloadN X0.here hx rfl (hb hby d2_124) rfl k_) ?_
    show own_Go p e below _ s₁ (mkF m 125 #[.val (.ref a1), .val (.int (5 : Int32))] [(.int (5 : Int32))])
    refine own_by (fun t_ k_ => XS.iconst X0.here hx rfl (hb hby d2_125) k_) ?_
    show own_Go p e below _ s₁ (mkF m 126 #[.val (.ref a1), .val (.int (5 : Int32))] [(.int (5 : Int32)), (.int (5 : Int32))])
    refine own_icmp X0 hx 170 (hb hby d2_126) (by decide) (by decide) (fun hc => absurd (show (5 : Int32) = (5 : Int32) from by decide) (by first | exact hc | exact not_not_intro hc)) (fun _ => ?_)
    show own_Go p e below _ s₁ (mkF m 129 #[.val (.ref a1), .val (.int (5 : Int32))] [])
    refine own_newO X0 hx hZ hown (own_w hw 9 rfl) (own_w hw 10 rfl) (own_w hw 11 rfl) e0 (hb hby d2_129) (by decide) (by decide) ?_
    intro T65 h65 b65 X65 e65 g65 E65 A65 D65
    have lt_a1_b65 : a1 < b65 := Nat.lt_of_lt_of_le V_a1.lt (Nat.le_of_eq g65.symm)
    have g_b65 : n0 ≤ b65 := Nat.le_trans Z0 (Nat.le_of_eq g65.symm)
    have sz65 : n0 ≤ h65.size := Nat.le_trans Z0 E65.1
    have szk_b65 : h0.size ≤ b65 := Nat.le_trans K0.1 (Nat.le_of_eq g65.symm)
    have K65 : Keep h0 h65 [] := K0.ext E65
    have F66_0 : Fld Z h65 b65 "java/lang/String" "coder" "B" (.int (0 : Int32)) := D65 (Or.inr (own_w hw 35 rfl)) (ty := .byte) (by decide)
    have F67_0 : Fld Z h65 b65 "java/lang/String" "value" "[B" .null := D65 (Or.inr (own_w hw 37 rfl)) (ty := (.array .byte)) (by decide)
    show own_Go p e below _ T65 (mkF m 132 #[.val (.ref a1), .val (.int (5 : Int32))] [(.ref b65)])
    refine own_by (fun t_ k_ => XS.dup X65.here hx rfl (hb hby d2_132) rfl rfl k_) ?_
    show own_Go p e below _ T65 (mkF m 133 #[.val (.ref a1), .val (.int (5 : Int32))] [(.ref b65), (.ref b65)])
    refine own_by (fun t_ k_ => XS.iconst X65.here hx rfl (hb hby d2_133) k_) ?_
    show own_Go p e below _ T65 (mkF m 134 #[.val (.ref a1), .val (.int (5 : Int32))] [(.int (5 : Int32)), (.ref b65), (.ref b65)])
    refine own_newP X65 hx hZ (own_w hw 0 rfl) e65 (hb hby d2_134) 5 5 (by decide) (by decide) (by decide) (by decide) (by decide) ?_
    intro T68 h68 b68 X68 e68 g68 E68 A68
    have V_a1_69 : own_Arr Z h65 a1 .char [(.int c0), (.int c1), (.int c2), (.int c3), (.int c4), (.int c5)] := (own_Arr.ext V_a1 E65)
    have lt_a1_b68 : a1 < b68 := Nat.lt_of_lt_of_le V_a1_69.lt (Nat.le_of_eq g68.symm)
    have lt_b65_b68 : b65 < b68 := Nat.lt_of_lt_of_le A65.lt (Nat.le_of_eq g68.symm)
    have g_b68 : n0 ≤ b68 := Nat.le_trans sz65 (Nat.le_of_eq g68.symm)
    have sz68 : n0 ≤ h68.size := Nat.le_trans sz65 E68.1
    have szk_b68 : h0.size ≤ b68 := Nat.le_trans K65.1 (Nat.le_of_eq g68.symm)
    have K68 : Keep h0 h68 [] := K65.ext E68
    have V68_0 : own_Arr Z h68 b68 .char [(.int (0 : Int32)), (.int (0 : Int32)), (.int (0 : Int32)), (.int (0 : Int32)), (.int (0 : Int32))] := A68
    show own_Go p e below _ T68 (mkF m 136 #[.val (.ref a1), .val (.int (5 : Int32))] [(.ref b68), (.ref b65), (.ref b65)])
    refine own_by (fun t_ k_ => XS.dup X68.here hx rfl (hb hby d2_136) rfl rfl k_) ?_
    show own_Go p e below _ T68 (mkF m 137 #[.val (.ref a1), .val (.int (5 : Int32))] [(.ref b68), (.ref b68), (.ref b65), (.ref b65)])
    refine own_by (fun t_ k_ => XS.iconst X68.here hx rfl (hb hby d2_137) k_) ?_
    show own_Go p e below _ T68 (mkF m 138 #[.val (.ref a1), .val (.int (5 : Int32))] [(.int (0 : Int32)), (.ref b68), (.ref b68), (.ref b65), (.ref b65)])
    refine own_by (fun t_ k_ => XS.aloadN X68.here hx rfl (hb hby d2_138) rfl rfl k_) ?_
    show own_Go p e below _ T68 (mkF m 139 #[.val (.ref a1), .val (.int (5 : Int32))] [(.ref a1), (.int (0 : Int32)), (.ref b68), (.ref b68), (.ref b65), (.ref b65)])
    refine own_by (fun t_ k_ => XS.iconst X68.here hx rfl (hb hby d2_139) k_) ?_
    show own_Go p e below _ T68 (mkF m 140 #[.val (.ref a1), .val (.int (5 : Int32))] [(.int (0 : Int32)), (.ref a1), (.int (0 : Int32)), (.ref b68), (.ref b68), (.ref b65), (.ref b65)])
    have V_a1_70 : own_Arr Z h68 a1 .char [(.int c0), (.int c1), (.int c2), (.int c3), (.int c4), (.int c5)] := (own_Arr.ext V_a1_69 E68)
    refine own_caload X68 hx hZ e68 V_a1_70 (v := (.int c0)) 0 (by decide) rfl (hb hby d2_140) ?_
    show own_Go p e below _ T68 (mkF m 141 #[.val (.ref a1), .val (.int (5 : Int32))] [(.int c0), (.int (0 : Int32)), (.ref b68), (.ref b68), (.ref b65), (.ref b65)])
    refine own_castoreN X68 hx hZ e68 V68_0 (own_nar (hok c0 (by simp))) 0 (by decide) (Nat.le_of_ble_eq_true rfl) (hb hby d2_141) ?_
    intro T71 h71 X71 e71 W71 A71
    have V71_0 : own_Arr Z h71 b68 .char [(.int c0), (.int (0 : Int32)), (.int (0 : Int32)), (.int (0 : Int32)), (.int (0 : Int32))] := A71
    have N71 := Fr.snoc X71 N0 g_b68
    have sz71 : n0 ≤ h71.size := Nat.le_trans sz68 (Keep.of_wr W71).1
    have K71 : Keep h0 h71 [] := K68.wr W71 (Or.inr szk_b68)
    show own_Go p e below _ T71 (mkF m 142 #[.val (.ref a1), .val (.int (5 : Int32))] [(.ref b68), (.ref b65), (.ref b65)])
    refine own_by (fun t_ k_ => XS.dup X71.here hx rfl (hb hby d2_142) rfl rfl k_) ?_
    show own_Go p e below _ T71 (mkF m 143 #[.val (.ref a1), .val (.int (5 : Int32))] [(.ref b68), (.ref b68), (.ref b65), (.ref b65)])
    refine own_by (fun t_ k_ => XS.iconst X71.here hx rfl (hb hby d2_143) k_) ?_
    show own_Go p e below _ T71 (mkF m 144 #[.val (.ref a1), .val (.int (5 : Int32))] [(.int (1 : Int32)), (.ref b68), (.ref b68), (.ref b65), (.ref b65)])
    refine own_by (fun t_ k_ => XS.aloadN X71.here hx rfl (hb hby d2_144) rfl rfl k_) ?_
    show own_Go p e below _ T71 (mkF m 145 #[.val (.ref a1), .val (.int (5 : Int32))] [(.ref a1), (.int (1 : Int32)), (.ref b68), (.ref b68), (.ref b65), (.ref b65)])
    refine own_by (fun t_ k_ => XS.iconst X71.here hx rfl (hb hby d2_145) k_) ?_
    show own_Go p e below _ T71 (mkF m 146 #[.val (.ref a1), .val (.int (5 : Int32))] [(.int (1 : Int32)), (.ref a1), (.int (1 : Int32)), (.ref b68), (.ref b68), (.ref b65), (.ref b65)])
    have V_a1_72 : own_Arr Z h71 a1 .char [(.int c0), (.int c1), (.int c2), (.int c3), (.int c4), (.int c5)] := (own_Arr.other V_a1_70 W71 (Nat.ne_of_lt lt_a1_b68))
    refine own_caload X71 hx hZ e71 V_a1_72 (v := (.int c1)) 1 (by decide) rfl (hb hby d2_146) ?_
    show own_Go p e below _ T71 (mkF m 147 #[.val (.ref a1), .val (.int (5 : Int32))] [(.int c1), (.int (1 : Int32)), (.ref b68), (.ref b68), (.ref b65), (.ref b65)])
    refine own_castoreN X71 hx hZ e71 V71_0 (own_nar (hok c1 (by simp))) 1 (by decide) (Nat.le_of_ble_eq_true rfl) (hb hby d2_147) ?_
    intro T73 h73 X73 e73 W73 A73
    have V73_0 : own_Arr Z h73 b68 .char [(.int c0), (.int c1), (.int (0 : Int32)), (.int (0 : Int32)), (.int (0 : Int32))] := A73
    have N73 := Fr.snoc X73 N71 g_b68
    have sz73 : n0 ≤ h73.size := Nat.le_trans sz71 (Keep.of_wr W73).1
    have K73 : Keep h0 h73 [] := K71.wr W73 (Or.inr szk_b68)
    show own_Go p e below _ T73 (mkF m 148 #[.val (.ref a1), .val (.int (5 : Int32))] [(.ref b68), (.ref b65), (.ref b65)])
    refine own_by (fun t_ k_ => XS.dup X73.here hx rfl (hb hby d2_148) rfl rfl k_) ?_
    show own_Go p e below _ T73 (mkF m 149 #[.val (.ref a1), .val (.int (5 : Int32))] [(.ref b68), (.ref b68), (.ref b65), (.ref b65)])
    refine own_by (fun t_ k_ => XS.iconst X73.here hx rfl (hb hby d2_149) k_) ?_
    show own_Go p e below _ T73 (mkF m 150 #[.val (.ref a1), .val (.int (5 : Int32))] [(.int (2 : Int32)), (.ref b68), (.ref b68), (.ref b65), (.ref b65)])
    refine own_by (fun t_ k_ => XS.aloadN X73.here hx rfl (hb hby d2_150) rfl rfl k_) ?_
    show own_Go p e below _ T73 (mkF m 151 #[.val (.ref a1), .val (.int (5 : Int32))] [(.ref a1), (.int (2 : Int32)), (.ref b68), (.ref b68), (.ref b65), (.ref b65)])
    refine own_by (fun t_ k_ => XS.iconst X73.here hx rfl (hb hby d2_151) k_) ?_
    show own_Go p e below _ T73 (mkF m 152 #[.val (.ref a1), .val (.int (5 : Int32))] [(.int (2 : Int32)), (.ref a1), (.int (2 : Int32)), (.ref b68), (.ref b68), (.ref b65), (.ref b65)])
    have V_a1_74 : own_Arr Z h73 a1 .char [(.int c0), (.int c1), (.int c2), (.int c3), (.int c4), (.int c5)] := (own_Arr.other V_a1_72 W73 (Nat.ne_of_lt lt_a1_b68))
    refine own_caload X73 hx hZ e73 V_a1_74 (v := (.int c2)) 2 (by decide) rfl (hb hby d2_152) ?_
    show own_Go p e below _ T73 (mkF m 153 #[.val (.ref a1), .val (.int (5 : Int32))] [(.int c2), (.int (2 : Int32)), (.ref b68), (.ref b68), (.ref b65), (.ref b65)])
    refine own_castoreN X73 hx hZ e73 V73_0 (own_nar (hok c2 (by simp))) 2 (by decide) (Nat.le_of_ble_eq_true rfl) (hb hby d2_153) ?_
    intro T75 h75 X75 e75 W75 A75
    have V75_0 : own_Arr Z h75 b68 .char [(.int c0), (.int c1), (.int c2), (.int (0 : Int32)), (.int (0 : Int32))] := A75
    have N75 := Fr.snoc X75 N73 g_b68
    have sz75 : n0 ≤ h75.size := Nat.le_trans sz73 (Keep.of_wr W75).1
    have K75 : Keep h0 h75 [] := K73.wr W75 (Or.inr szk_b68)
    show own_Go p e below _ T75 (mkF m 154 #[.val (.ref a1), .val (.int (5 : Int32))] [(.ref b68), (.ref b65), (.ref b65)])
    refine own_by (fun t_ k_ => XS.dup X75.here hx rfl (hb hby d2_154) rfl rfl k_) ?_
    show own_Go p e below _ T75 (mkF m 155 #[.val (.ref a1), .val (.int (5 : Int32))] [(.ref b68), (.ref b68), (.ref b65), (.ref b65)])
    refine own_by (fun t_ k_ => XS.iconst X75.here hx rfl (hb hby d2_155) k_) ?_
    show own_Go p e below _ T75 (mkF m 156 #[.val (.ref a1), .val (.int (5 : Int32))] [(.int (3 : Int32)), (.ref b68), (.ref b68), (.ref b65), (.ref b65)])
    refine own_by (fun t_ k_ => XS.aloadN X75.here hx rfl (hb hby d2_156) rfl rfl k_) ?_
    show own_Go p e below _ T75 (mkF m 157 #[.val (.ref a1), .val (.int (5 : Int32))] [(.ref a1), (.int (3 : Int32)), (.ref b68), (.ref b68), (.ref b65), (.ref b65)])
    refine own_by (fun t_ k_ => XS.iconst X75.here hx rfl (hb hby d2_157) k_) ?_
    show own_Go p e below _ T75 (mkF m 158 #[.val (.ref a1), .val (.int (5 : Int32))] [(.int (3 : Int32)), (.ref a1), (.int (3 : Int32)), (.ref b68), (.ref b68), (.ref b65), (.ref b65)])
    have V_a1_76 : own_Arr Z h75 a1 .char [(.int c0), (.int c1), (.int c2), (.int c3), (.int c4), (.int c5)] := (own_Arr.other V_a1_74 W75 (Nat.ne_of_lt lt_a1_b68))
    refine own_caload X75 hx hZ e75 V_a1_76 (v := (.int c3)) 3 (by decide) rfl (hb hby d2_158) ?_
    show own_Go p e below _ T75 (mkF m 159 #[.val (.ref a1), .val (.int (5 : Int32))] [(.int c3), (.int (3 : Int32)), (.ref b68), (.ref b68), (.ref b65), (.ref b65)])
    refine own_castoreN X75 hx hZ e75 V75_0 (own_nar (hok c3 (by simp))) 3 (by decide) (Nat.le_of_ble_eq_true rfl) (hb hby d2_159) ?_
    intro T77 h77 X77 e77 W77 A77
    have V77_0 : own_Arr Z h77 b68 .char [(.int c0), (.int c1), (.int c2), (.int c3), (.int (0 : Int32))] := A77
    have N77 := Fr.snoc X77 N75 g_b68
    have sz77 : n0 ≤ h77.size := Nat.le_trans sz75 (Keep.of_wr W77).1
    have K77 : Keep h0 h77 [] := K75.wr W77 (Or.inr szk_b68)
    show own_Go p e below _ T77 (mkF m 160 #[.val (.ref a1), .val (.int (5 : Int32))] [(.ref b68), (.ref b65), (.ref b65)])
    refine own_by (fun t_ k_ => XS.dup X77.here hx rfl (hb hby d2_160) rfl rfl k_) ?_
    show own_Go p e below _ T77 (mkF m 161 #[.val (.ref a1), .val (.int (5 : Int32))] [(.ref b68), (.ref b68), (.ref b65), (.ref b65)])
    refine own_by (fun t_ k_ => XS.iconst X77.here hx rfl (hb hby d2_161) k_) ?_
    show own_Go p e below _ T77 (mkF m 162 #[.val (.ref a1), .val (.int (5 : Int32))] [(.int (4 : Int32)), (.ref b68), (.ref b68), (.ref b65), (.ref b65)])
    refine own_by (fun t_ k_ => XS.aloadN X77.here hx rfl (hb hby d2_162) rfl rfl k_) ?_
    show own_Go p e below _ T77 (mkF m 163 #[.val (.ref a1), .val (.int (5 : Int32))] [(.ref a1), (.int (4 : Int32)), (.ref b68), (.ref b68), (.ref b65), (.ref b65)])
    refine own_by (fun t_ k_ => XS.iconst X77.here hx rfl (hb hby d2_163) k_) ?_
    show own_Go p e below _ T77 (mkF m 164 #[.val (.ref a1), .val (.int (5 : Int32))] [(.int (4 : Int32)), (.ref a1), (.int (4 : Int32)), (.ref b68), (.ref b68), (.ref b65), (.ref b65)])
    have V_a1_78 : own_Arr Z h77 a1 .char [(.int c0), (.int c1), (.int c2), (.int c3), (.int c4), (.int c5)] := (own_Arr.other V_a1_76 W77 (Nat.ne_of_lt lt_a1_b68))
    refine own_caload X77 hx hZ e77 V_a1_78 (v := (.int c4)) 4 (by decide) rfl (hb hby d2_164) ?_
    show own_Go p e below _ T77 (mkF m 165 #[.val (.ref a1), .val (.int (5 : Int32))] [(.int c4), (.int (4 : Int32)), (.ref b68), (.ref b68), (.ref b65), (.ref b65)])
    refine own_castoreN X77 hx hZ e77 V77_0 (own_nar (hok c4 (by simp))) 4 (by decide) (Nat.le_of_ble_eq_true rfl) (hb hby d2_165) ?_
    intro T79 h79 X79 e79 W79 A79
    have V79_0 : own_Arr Z h79 b68 .char [(.int c0), (.int c1), (.int c2), (.int c3), (.int c4)] := A79
    have N79 := Fr.snoc X79 N77 g_b68
    have sz79 : n0 ≤ h79.size := Nat.le_trans sz77 (Keep.of_wr W79).1
    have K79 : Keep h0 h79 [] := K77.wr W79 (Or.inr szk_b68)
    show own_Go p e below _ T79 (mkF m 166 #[.val (.ref a1), .val (.int (5 : Int32))] [(.ref b68), (.ref b65), (.ref b65)])
    have A65_80 : Exa Z h79 b65 "java/lang/String" := (Exa.wr W79 (Exa.wr W77 (Exa.wr W75 (Exa.wr W73 (Exa.wr W71 (Exa.ext E68 A65))))))
    have F67_81 : Fld Z h79 b65 "java/lang/String" "value" "[B" .null := (Fld.other W79 (Fld.other W77 (Fld.other W75 (Fld.other W73 (Fld.other W71 (Fld.ext E68 F67_0) (Or.inl (Nat.ne_of_lt lt_b65_b68))) (Or.inl (Nat.ne_of_lt lt_b65_b68))) (Or.inl (Nat.ne_of_lt lt_b65_b68))) (Or.inl (Nat.ne_of_lt lt_b65_b68))) (Or.inl (Nat.ne_of_lt lt_b65_b68)))
    have F66_82 : Fld Z h79 b65 "java/lang/String" "coder" "B" (.int (0 : Int32)) := (Fld.other W79 (Fld.other W77 (Fld.other W75 (Fld.other W73 (Fld.other W71 (Fld.ext E68 F66_0) (Or.inl (Nat.ne_of_lt lt_b65_b68))) (Or.inl (Nat.ne_of_lt lt_b65_b68))) (Or.inl (Nat.ne_of_lt lt_b65_b68))) (Or.inl (Nat.ne_of_lt lt_b65_b68))) (Or.inl (Nat.ne_of_lt lt_b65_b68)))
    have S_cs_83 : Sta Z h79 "java/lang/String" "COMPACT_STRINGS" "Z" (.int cs) := (Sta.wr W79 (Sta.wr W77 (Sta.wr W75 (Sta.wr W73 (Sta.wr W71 (Sta.ext E68 (Sta.ext E65 S_cs)))))))
    obtain ⟨kq84, Kq84⟩ := own_Arr.arv V79_0 (.int 0)
    have hp84 : ∀ c ∈ ([c0, c1, c2, c3, c4] : List Int32), ¬ c < 0 ∧ ¬ (255 : Int32) < c := fun c hc => hok c (List.mem_of_mem_take (i := 5) (l := [c0, c1, c2, c3, c4, c5]) hc)
    refine own_callCB (W := 1) X79 hx hZ (y := (⟨"java/lang/String", "<init>", "([C)V"⟩ : MethodName)) (kc := 1) (ks := 5) rfl hown (own_w hw 12 rfl) (own_w hw 13 rfl) (own_w hw 14 rfl) (by decide) (by rw [hml]; rfl) (argsL := [(.ref b68)]) pd_2 rfl (a := b65) (StrChars.Road.backV (W := 1) hZ hws (kI := 4) (own_w hw 10 rfl) (cs := [c0, c1, c2, c3, c4]) (bs := ([c0, c1, c2, c3, c4] : List Int32).map (fun c => c.toInt8.toInt32)) (n := 5) g_b65 sz79 A65_80 F67_81 F66_82 Kq84 S_cs_83 hcs rfl rfl (by decide) (by decide) hp84 rfl (by decide) (by decide)) (Nat.le_of_eq rfl) (by decide) (by decide) (rest := [(.ref b65)]) e79 rfl (hb hby d2_166) ?_
    intro v85 T85 L85 X85 hQ85
    obtain ⟨rfl, N85q, K85q, E85, C85, t85, kb85, gt85, -, -, W85, A85⟩ := hQ85
    have N85 := Fr.app N79 N85q
    have sz85 : n0 ≤ T85.heap.size := Nat.le_trans sz79 K85q.1
    have K85 : Keep h0 T85.heap [] := K79.trans K85q (allS (Or.inr szk_b65) all0)
    show own_Go p e below _ T85 (mkF m 169 #[.val (.ref a1), .val (.int (5 : Int32))] [(.ref b65)])
    refine own_retR X85 hx hlk Bd.returns rfl rfl rfl (hb hby d2_169) rfl (by decide) (by decide) ?_
    exact ⟨b65, t85, kb85, rfl, N85, K85, E85, C85, W85, A85⟩
  · show own_Go p e below _ s₁ (mkF m 0 #[.val (.ref a1), .val (.int (6 : Int32))] [])
    refine own_by (fun t_ k_ => XS.iloadN X0.here hx rfl (hb hby d2_0) rfl k_) ?_
    show own_Go p e below _ s₁ (mkF m 1 #[.val (.ref a1), .val (.int (6 : Int32))] [(.int (6 : Int32))])
    refine own_by (fun t_ k_ => XS.iconst X0.here hx rfl (hb hby d2_1) k_) ?_
    show own_Go p e below _ s₁ (mkF m 2 #[.val (.ref a1), .val (.int (6 : Int32))] [(.int (1 : Int32)), (.int (6 : Int32))])
    refine own_icmp X0 hx 22 (hb hby d2_2) (by decide) (by decide) (fun _ => ?_) (fun hc => absurd (show ¬ (6 : Int32) = (1 : Int32) from by decide) (by first | exact hc | exact not_not_intro hc))
    show own_Go p e below _ s₁ (mkF m 22 #[.val (.ref a1), .val (.int (6 : Int32))] [])
    refine own_by (fun t_ k_ => XS.iloadN X0.here hx rfl (hb hby d2_22) rfl k_) ?_
    show own_Go p e below _ s₁ (mkF m 23 #[.val (.ref a1), .val (.int (6 : Int32))] [(.int (6 : Int32))])
    refine own_by (fun t_ k_ => XS.iconst X0.here hx rfl (hb hby d2_23) k_) ?_
    show own_Go p e below _ s₁ (mkF m 24 #[.val (.ref a1), .val (.int (6 : Int32))] [(.int (2 : Int32)), (.int (6 : Int32))])
    refine own_icmp X0 hx 50 (hb hby d2_24) (by decide) (by decide) (fun _ => ?_) (fun hc => absurd (show ¬ (6 : Int32) = (2 : Int32) from by decide) (by first | exact hc | exact not_not_intro hc))
    show own_Go p e below _ s₁ (mkF m 50 #[.val (.ref a1), .val (.int (6 : Int32))] [])
    refine own_by (fun t_ k_ => XS.iloadN X0.here hx rfl (hb hby d2_50) rfl k_) ?_
    show own_Go p e below _ s₁ (mkF m 51 #[.val (.ref a1), .val (.int (6 : Int32))] [(.int (6 : Int32))])
    refine own_by (fun t_ k_ => XS.iconst X0.here hx rfl (hb hby d2_51) k_) ?_
    show own_Go p e below _ s₁ (mkF m 52 #[.val (.ref a1), .val (.int (6 : Int32))] [(.int (3 : Int32)), (.int (6 : Int32))])
    refine own_icmp X0 hx 84 (hb hby d2_52) (by decide) (by decide) (fun _ => ?_) (fun hc => absurd (show ¬ (6 : Int32) = (3 : Int32) from by decide) (by first | exact hc | exact not_not_intro hc))
    show own_Go p e below _ s₁ (mkF m 84 #[.val (.ref a1), .val (.int (6 : Int32))] [])
    refine own_by (fun t_ k_ => XS.iloadN X0.here hx rfl (hb hby d2_84) rfl k_) ?_
    show own_Go p e below _ s₁ (mkF m 85 #[.val (.ref a1), .val (.int (6 : Int32))] [(.int (6 : Int32))])
    refine own_by (fun t_ k_ => XS.iconst X0.here hx rfl (hb hby d2_85) k_) ?_
    show own_Go p e below _ s₁ (mkF m 86 #[.val (.ref a1), .val (.int (6 : Int32))] [(.int (4 : Int32)), (.int (6 : Int32))])
    refine own_icmp X0 hx 124 (hb hby d2_86) (by decide) (by decide) (fun _ => ?_) (fun hc => absurd (show ¬ (6 : Int32) = (4 : Int32) from by decide) (by first | exact hc | exact not_not_intro hc))
    show own_Go p e below _ s₁ (mkF m 124 #[.val (.ref a1), .val (.int (6 : Int32))] [])
    refine own_by (fun t_ k_ => XS.iloadN X0.here hx rfl (hb hby d2_124) rfl k_) ?_
    show own_Go p e below _ s₁ (mkF m 125 #[.val (.ref a1), .val (.int (6 : Int32))] [(.int (6 : Int32))])
    refine own_by (fun t_ k_ => XS.iconst X0.here hx rfl (hb hby d2_125) k_) ?_
    show own_Go p e below _ s₁ (mkF m 126 #[.val (.ref a1), .val (.int (6 : Int32))] [(.int (5 : Int32)), (.int (6 : Int32))])
    refine own_icmp X0 hx 170 (hb hby d2_126) (by decide) (by decide) (fun _ => ?_) (fun hc => absurd (show ¬ (6 : Int32) = (5 : Int32) from by decide) (by first | exact hc | exact not_not_intro hc))
    show own_Go p e below _ s₁ (mkF m 170 #[.val (.ref a1), .val (.int (6 : Int32))] [])
    refine own_newO X0 hx hZ hown (own_w hw 9 rfl) (own_w hw 10 rfl) (own_w hw 11 rfl) e0 (hb hby d2_170) (by decide) (by decide) ?_
    intro T86 h86 b86 X86 e86 g86 E86 A86 D86
    have lt_a1_b86 : a1 < b86 := Nat.lt_of_lt_of_le V_a1.lt (Nat.le_of_eq g86.symm)
    have g_b86 : n0 ≤ b86 := Nat.le_trans Z0 (Nat.le_of_eq g86.symm)
    have sz86 : n0 ≤ h86.size := Nat.le_trans Z0 E86.1
    have szk_b86 : h0.size ≤ b86 := Nat.le_trans K0.1 (Nat.le_of_eq g86.symm)
    have K86 : Keep h0 h86 [] := K0.ext E86
    have F87_0 : Fld Z h86 b86 "java/lang/String" "coder" "B" (.int (0 : Int32)) := D86 (Or.inr (own_w hw 35 rfl)) (ty := .byte) (by decide)
    have F88_0 : Fld Z h86 b86 "java/lang/String" "value" "[B" .null := D86 (Or.inr (own_w hw 37 rfl)) (ty := (.array .byte)) (by decide)
    show own_Go p e below _ T86 (mkF m 173 #[.val (.ref a1), .val (.int (6 : Int32))] [(.ref b86)])
    refine own_by (fun t_ k_ => XS.dup X86.here hx rfl (hb hby d2_173) rfl rfl k_) ?_
    show own_Go p e below _ T86 (mkF m 174 #[.val (.ref a1), .val (.int (6 : Int32))] [(.ref b86), (.ref b86)])
    refine own_by (fun t_ k_ => XS.bipush X86.here hx rfl (hb hby d2_174) k_) ?_
    show own_Go p e below _ T86 (mkF m 176 #[.val (.ref a1), .val (.int (6 : Int32))] [(.int (6 : Int32)), (.ref b86), (.ref b86)])
    refine own_newP X86 hx hZ (own_w hw 0 rfl) e86 (hb hby d2_176) 6 6 (by decide) (by decide) (by decide) (by decide) (by decide) ?_
    intro T89 h89 b89 X89 e89 g89 E89 A89
    have V_a1_90 : own_Arr Z h86 a1 .char [(.int c0), (.int c1), (.int c2), (.int c3), (.int c4), (.int c5)] := (own_Arr.ext V_a1 E86)
    have lt_a1_b89 : a1 < b89 := Nat.lt_of_lt_of_le V_a1_90.lt (Nat.le_of_eq g89.symm)
    have lt_b86_b89 : b86 < b89 := Nat.lt_of_lt_of_le A86.lt (Nat.le_of_eq g89.symm)
    have g_b89 : n0 ≤ b89 := Nat.le_trans sz86 (Nat.le_of_eq g89.symm)
    have sz89 : n0 ≤ h89.size := Nat.le_trans sz86 E89.1
    have szk_b89 : h0.size ≤ b89 := Nat.le_trans K86.1 (Nat.le_of_eq g89.symm)
    have K89 : Keep h0 h89 [] := K86.ext E89
    have V89_0 : own_Arr Z h89 b89 .char [(.int (0 : Int32)), (.int (0 : Int32)), (.int (0 : Int32)), (.int (0 : Int32)), (.int (0 : Int32)), (.int (0 : Int32))] := A89
    show own_Go p e below _ T89 (mkF m 178 #[.val (.ref a1), .val (.int (6 : Int32))] [(.ref b89), (.ref b86), (.ref b86)])
    refine own_by (fun t_ k_ => XS.dup X89.here hx rfl (hb hby d2_178) rfl rfl k_) ?_
    show own_Go p e below _ T89 (mkF m 179 #[.val (.ref a1), .val (.int (6 : Int32))] [(.ref b89), (.ref b89), (.ref b86), (.ref b86)])
    refine own_by (fun t_ k_ => XS.iconst X89.here hx rfl (hb hby d2_179) k_) ?_
    show own_Go p e below _ T89 (mkF m 180 #[.val (.ref a1), .val (.int (6 : Int32))] [(.int (0 : Int32)), (.ref b89), (.ref b89), (.ref b86), (.ref b86)])
    refine own_by (fun t_ k_ => XS.aloadN X89.here hx rfl (hb hby d2_180) rfl rfl k_) ?_
    show own_Go p e below _ T89 (mkF m 181 #[.val (.ref a1), .val (.int (6 : Int32))] [(.ref a1), (.int (0 : Int32)), (.ref b89), (.ref b89), (.ref b86), (.ref b86)])
    refine own_by (fun t_ k_ => XS.iconst X89.here hx rfl (hb hby d2_181) k_) ?_
    show own_Go p e below _ T89 (mkF m 182 #[.val (.ref a1), .val (.int (6 : Int32))] [(.int (0 : Int32)), (.ref a1), (.int (0 : Int32)), (.ref b89), (.ref b89), (.ref b86), (.ref b86)])
    have V_a1_91 : own_Arr Z h89 a1 .char [(.int c0), (.int c1), (.int c2), (.int c3), (.int c4), (.int c5)] := (own_Arr.ext V_a1_90 E89)
    refine own_caload X89 hx hZ e89 V_a1_91 (v := (.int c0)) 0 (by decide) rfl (hb hby d2_182) ?_
    show own_Go p e below _ T89 (mkF m 183 #[.val (.ref a1), .val (.int (6 : Int32))] [(.int c0), (.int (0 : Int32)), (.ref b89), (.ref b89), (.ref b86), (.ref b86)])
    refine own_castoreN X89 hx hZ e89 V89_0 (own_nar (hok c0 (by simp))) 0 (by decide) (Nat.le_of_ble_eq_true rfl) (hb hby d2_183) ?_
    intro T92 h92 X92 e92 W92 A92
    have V92_0 : own_Arr Z h92 b89 .char [(.int c0), (.int (0 : Int32)), (.int (0 : Int32)), (.int (0 : Int32)), (.int (0 : Int32)), (.int (0 : Int32))] := A92
    have N92 := Fr.snoc X92 N0 g_b89
    have sz92 : n0 ≤ h92.size := Nat.le_trans sz89 (Keep.of_wr W92).1
    have K92 : Keep h0 h92 [] := K89.wr W92 (Or.inr szk_b89)
    show own_Go p e below _ T92 (mkF m 184 #[.val (.ref a1), .val (.int (6 : Int32))] [(.ref b89), (.ref b86), (.ref b86)])
    refine own_by (fun t_ k_ => XS.dup X92.here hx rfl (hb hby d2_184) rfl rfl k_) ?_
    show own_Go p e below _ T92 (mkF m 185 #[.val (.ref a1), .val (.int (6 : Int32))] [(.ref b89), (.ref b89), (.ref b86), (.ref b86)])
    refine own_by (fun t_ k_ => XS.iconst X92.here hx rfl (hb hby d2_185) k_) ?_
    show own_Go p e below _ T92 (mkF m 186 #[.val (.ref a1), .val (.int (6 : Int32))] [(.int (1 : Int32)), (.ref b89), (.ref b89), (.ref b86), (.ref b86)])
    refine own_by (fun t_ k_ => XS.aloadN X92.here hx rfl (hb hby d2_186) rfl rfl k_) ?_
    show own_Go p e below _ T92 (mkF m 187 #[.val (.ref a1), .val (.int (6 : Int32))] [(.ref a1), (.int (1 : Int32)), (.ref b89), (.ref b89), (.ref b86), (.ref b86)])
    refine own_by (fun t_ k_ => XS.iconst X92.here hx rfl (hb hby d2_187) k_) ?_
    show own_Go p e below _ T92 (mkF m 188 #[.val (.ref a1), .val (.int (6 : Int32))] [(.int (1 : Int32)), (.ref a1), (.int (1 : Int32)), (.ref b89), (.ref b89), (.ref b86), (.ref b86)])
    have V_a1_93 : own_Arr Z h92 a1 .char [(.int c0), (.int c1), (.int c2), (.int c3), (.int c4), (.int c5)] := (own_Arr.other V_a1_91 W92 (Nat.ne_of_lt lt_a1_b89))
    refine own_caload X92 hx hZ e92 V_a1_93 (v := (.int c1)) 1 (by decide) rfl (hb hby d2_188) ?_
    show own_Go p e below _ T92 (mkF m 189 #[.val (.ref a1), .val (.int (6 : Int32))] [(.int c1), (.int (1 : Int32)), (.ref b89), (.ref b89), (.ref b86), (.ref b86)])
    refine own_castoreN X92 hx hZ e92 V92_0 (own_nar (hok c1 (by simp))) 1 (by decide) (Nat.le_of_ble_eq_true rfl) (hb hby d2_189) ?_
    intro T94 h94 X94 e94 W94 A94
    have V94_0 : own_Arr Z h94 b89 .char [(.int c0), (.int c1), (.int (0 : Int32)), (.int (0 : Int32)), (.int (0 : Int32)), (.int (0 : Int32))] := A94
    have N94 := Fr.snoc X94 N92 g_b89
    have sz94 : n0 ≤ h94.size := Nat.le_trans sz92 (Keep.of_wr W94).1
    have K94 : Keep h0 h94 [] := K92.wr W94 (Or.inr szk_b89)
    show own_Go p e below _ T94 (mkF m 190 #[.val (.ref a1), .val (.int (6 : Int32))] [(.ref b89), (.ref b86), (.ref b86)])
    refine own_by (fun t_ k_ => XS.dup X94.here hx rfl (hb hby d2_190) rfl rfl k_) ?_
    show own_Go p e below _ T94 (mkF m 191 #[.val (.ref a1), .val (.int (6 : Int32))] [(.ref b89), (.ref b89), (.ref b86), (.ref b86)])
    refine own_by (fun t_ k_ => XS.iconst X94.here hx rfl (hb hby d2_191) k_) ?_
    show own_Go p e below _ T94 (mkF m 192 #[.val (.ref a1), .val (.int (6 : Int32))] [(.int (2 : Int32)), (.ref b89), (.ref b89), (.ref b86), (.ref b86)])
    refine own_by (fun t_ k_ => XS.aloadN X94.here hx rfl (hb hby d2_192) rfl rfl k_) ?_
    show own_Go p e below _ T94 (mkF m 193 #[.val (.ref a1), .val (.int (6 : Int32))] [(.ref a1), (.int (2 : Int32)), (.ref b89), (.ref b89), (.ref b86), (.ref b86)])
    refine own_by (fun t_ k_ => XS.iconst X94.here hx rfl (hb hby d2_193) k_) ?_
    show own_Go p e below _ T94 (mkF m 194 #[.val (.ref a1), .val (.int (6 : Int32))] [(.int (2 : Int32)), (.ref a1), (.int (2 : Int32)), (.ref b89), (.ref b89), (.ref b86), (.ref b86)])
    have V_a1_95 : own_Arr Z h94 a1 .char [(.int c0), (.int c1), (.int c2), (.int c3), (.int c4), (.int c5)] := (own_Arr.other V_a1_93 W94 (Nat.ne_of_lt lt_a1_b89))
    refine own_caload X94 hx hZ e94 V_a1_95 (v := (.int c2)) 2 (by decide) rfl (hb hby d2_194) ?_
    show own_Go p e below _ T94 (mkF m 195 #[.val (.ref a1), .val (.int (6 : Int32))] [(.int c2), (.int (2 : Int32)), (.ref b89), (.ref b89), (.ref b86), (.ref b86)])
    refine own_castoreN X94 hx hZ e94 V94_0 (own_nar (hok c2 (by simp))) 2 (by decide) (Nat.le_of_ble_eq_true rfl) (hb hby d2_195) ?_
    intro T96 h96 X96 e96 W96 A96
    have V96_0 : own_Arr Z h96 b89 .char [(.int c0), (.int c1), (.int c2), (.int (0 : Int32)), (.int (0 : Int32)), (.int (0 : Int32))] := A96
    have N96 := Fr.snoc X96 N94 g_b89
    have sz96 : n0 ≤ h96.size := Nat.le_trans sz94 (Keep.of_wr W96).1
    have K96 : Keep h0 h96 [] := K94.wr W96 (Or.inr szk_b89)
    show own_Go p e below _ T96 (mkF m 196 #[.val (.ref a1), .val (.int (6 : Int32))] [(.ref b89), (.ref b86), (.ref b86)])
    refine own_by (fun t_ k_ => XS.dup X96.here hx rfl (hb hby d2_196) rfl rfl k_) ?_
    show own_Go p e below _ T96 (mkF m 197 #[.val (.ref a1), .val (.int (6 : Int32))] [(.ref b89), (.ref b89), (.ref b86), (.ref b86)])
    refine own_by (fun t_ k_ => XS.iconst X96.here hx rfl (hb hby d2_197) k_) ?_
    show own_Go p e below _ T96 (mkF m 198 #[.val (.ref a1), .val (.int (6 : Int32))] [(.int (3 : Int32)), (.ref b89), (.ref b89), (.ref b86), (.ref b86)])
    refine own_by (fun t_ k_ => XS.aloadN X96.here hx rfl (hb hby d2_198) rfl rfl k_) ?_
    show own_Go p e below _ T96 (mkF m 199 #[.val (.ref a1), .val (.int (6 : Int32))] [(.ref a1), (.int (3 : Int32)), (.ref b89), (.ref b89), (.ref b86), (.ref b86)])
    refine own_by (fun t_ k_ => XS.iconst X96.here hx rfl (hb hby d2_199) k_) ?_
    show own_Go p e below _ T96 (mkF m 200 #[.val (.ref a1), .val (.int (6 : Int32))] [(.int (3 : Int32)), (.ref a1), (.int (3 : Int32)), (.ref b89), (.ref b89), (.ref b86), (.ref b86)])
    have V_a1_97 : own_Arr Z h96 a1 .char [(.int c0), (.int c1), (.int c2), (.int c3), (.int c4), (.int c5)] := (own_Arr.other V_a1_95 W96 (Nat.ne_of_lt lt_a1_b89))
    refine own_caload X96 hx hZ e96 V_a1_97 (v := (.int c3)) 3 (by decide) rfl (hb hby d2_200) ?_
    show own_Go p e below _ T96 (mkF m 201 #[.val (.ref a1), .val (.int (6 : Int32))] [(.int c3), (.int (3 : Int32)), (.ref b89), (.ref b89), (.ref b86), (.ref b86)])
    refine own_castoreN X96 hx hZ e96 V96_0 (own_nar (hok c3 (by simp))) 3 (by decide) (Nat.le_of_ble_eq_true rfl) (hb hby d2_201) ?_
    intro T98 h98 X98 e98 W98 A98
    have V98_0 : own_Arr Z h98 b89 .char [(.int c0), (.int c1), (.int c2), (.int c3), (.int (0 : Int32)), (.int (0 : Int32))] := A98
    have N98 := Fr.snoc X98 N96 g_b89
    have sz98 : n0 ≤ h98.size := Nat.le_trans sz96 (Keep.of_wr W98).1
    have K98 : Keep h0 h98 [] := K96.wr W98 (Or.inr szk_b89)
    show own_Go p e below _ T98 (mkF m 202 #[.val (.ref a1), .val (.int (6 : Int32))] [(.ref b89), (.ref b86), (.ref b86)])
    refine own_by (fun t_ k_ => XS.dup X98.here hx rfl (hb hby d2_202) rfl rfl k_) ?_
    show own_Go p e below _ T98 (mkF m 203 #[.val (.ref a1), .val (.int (6 : Int32))] [(.ref b89), (.ref b89), (.ref b86), (.ref b86)])
    refine own_by (fun t_ k_ => XS.iconst X98.here hx rfl (hb hby d2_203) k_) ?_
    show own_Go p e below _ T98 (mkF m 204 #[.val (.ref a1), .val (.int (6 : Int32))] [(.int (4 : Int32)), (.ref b89), (.ref b89), (.ref b86), (.ref b86)])
    refine own_by (fun t_ k_ => XS.aloadN X98.here hx rfl (hb hby d2_204) rfl rfl k_) ?_
    show own_Go p e below _ T98 (mkF m 205 #[.val (.ref a1), .val (.int (6 : Int32))] [(.ref a1), (.int (4 : Int32)), (.ref b89), (.ref b89), (.ref b86), (.ref b86)])
    refine own_by (fun t_ k_ => XS.iconst X98.here hx rfl (hb hby d2_205) k_) ?_
    show own_Go p e below _ T98 (mkF m 206 #[.val (.ref a1), .val (.int (6 : Int32))] [(.int (4 : Int32)), (.ref a1), (.int (4 : Int32)), (.ref b89), (.ref b89), (.ref b86), (.ref b86)])
    have V_a1_99 : own_Arr Z h98 a1 .char [(.int c0), (.int c1), (.int c2), (.int c3), (.int c4), (.int c5)] := (own_Arr.other V_a1_97 W98 (Nat.ne_of_lt lt_a1_b89))
    refine own_caload X98 hx hZ e98 V_a1_99 (v := (.int c4)) 4 (by decide) rfl (hb hby d2_206) ?_
    show own_Go p e below _ T98 (mkF m 207 #[.val (.ref a1), .val (.int (6 : Int32))] [(.int c4), (.int (4 : Int32)), (.ref b89), (.ref b89), (.ref b86), (.ref b86)])
    refine own_castoreN X98 hx hZ e98 V98_0 (own_nar (hok c4 (by simp))) 4 (by decide) (Nat.le_of_ble_eq_true rfl) (hb hby d2_207) ?_
    intro T100 h100 X100 e100 W100 A100
    have V100_0 : own_Arr Z h100 b89 .char [(.int c0), (.int c1), (.int c2), (.int c3), (.int c4), (.int (0 : Int32))] := A100
    have N100 := Fr.snoc X100 N98 g_b89
    have sz100 : n0 ≤ h100.size := Nat.le_trans sz98 (Keep.of_wr W100).1
    have K100 : Keep h0 h100 [] := K98.wr W100 (Or.inr szk_b89)
    show own_Go p e below _ T100 (mkF m 208 #[.val (.ref a1), .val (.int (6 : Int32))] [(.ref b89), (.ref b86), (.ref b86)])
    refine own_by (fun t_ k_ => XS.dup X100.here hx rfl (hb hby d2_208) rfl rfl k_) ?_
    show own_Go p e below _ T100 (mkF m 209 #[.val (.ref a1), .val (.int (6 : Int32))] [(.ref b89), (.ref b89), (.ref b86), (.ref b86)])
    refine own_by (fun t_ k_ => XS.iconst X100.here hx rfl (hb hby d2_209) k_) ?_
    show own_Go p e below _ T100 (mkF m 210 #[.val (.ref a1), .val (.int (6 : Int32))] [(.int (5 : Int32)), (.ref b89), (.ref b89), (.ref b86), (.ref b86)])
    refine own_by (fun t_ k_ => XS.aloadN X100.here hx rfl (hb hby d2_210) rfl rfl k_) ?_
    show own_Go p e below _ T100 (mkF m 211 #[.val (.ref a1), .val (.int (6 : Int32))] [(.ref a1), (.int (5 : Int32)), (.ref b89), (.ref b89), (.ref b86), (.ref b86)])
    refine own_by (fun t_ k_ => XS.iconst X100.here hx rfl (hb hby d2_211) k_) ?_
    show own_Go p e below _ T100 (mkF m 212 #[.val (.ref a1), .val (.int (6 : Int32))] [(.int (5 : Int32)), (.ref a1), (.int (5 : Int32)), (.ref b89), (.ref b89), (.ref b86), (.ref b86)])
    have V_a1_101 : own_Arr Z h100 a1 .char [(.int c0), (.int c1), (.int c2), (.int c3), (.int c4), (.int c5)] := (own_Arr.other V_a1_99 W100 (Nat.ne_of_lt lt_a1_b89))
    refine own_caload X100 hx hZ e100 V_a1_101 (v := (.int c5)) 5 (by decide) rfl (hb hby d2_212) ?_
    show own_Go p e below _ T100 (mkF m 213 #[.val (.ref a1), .val (.int (6 : Int32))] [(.int c5), (.int (5 : Int32)), (.ref b89), (.ref b89), (.ref b86), (.ref b86)])
    refine own_castoreN X100 hx hZ e100 V100_0 (own_nar (hok c5 (by simp))) 5 (by decide) (Nat.le_of_ble_eq_true rfl) (hb hby d2_213) ?_
    intro T102 h102 X102 e102 W102 A102
    have V102_0 : own_Arr Z h102 b89 .char [(.int c0), (.int c1), (.int c2), (.int c3), (.int c4), (.int c5)] := A102
    have N102 := Fr.snoc X102 N100 g_b89
    have sz102 : n0 ≤ h102.size := Nat.le_trans sz100 (Keep.of_wr W102).1
    have K102 : Keep h0 h102 [] := K100.wr W102 (Or.inr szk_b89)
    show own_Go p e below _ T102 (mkF m 214 #[.val (.ref a1), .val (.int (6 : Int32))] [(.ref b89), (.ref b86), (.ref b86)])
    have A86_103 : Exa Z h102 b86 "java/lang/String" := (Exa.wr W102 (Exa.wr W100 (Exa.wr W98 (Exa.wr W96 (Exa.wr W94 (Exa.wr W92 (Exa.ext E89 A86)))))))
    have F88_104 : Fld Z h102 b86 "java/lang/String" "value" "[B" .null := (Fld.other W102 (Fld.other W100 (Fld.other W98 (Fld.other W96 (Fld.other W94 (Fld.other W92 (Fld.ext E89 F88_0) (Or.inl (Nat.ne_of_lt lt_b86_b89))) (Or.inl (Nat.ne_of_lt lt_b86_b89))) (Or.inl (Nat.ne_of_lt lt_b86_b89))) (Or.inl (Nat.ne_of_lt lt_b86_b89))) (Or.inl (Nat.ne_of_lt lt_b86_b89))) (Or.inl (Nat.ne_of_lt lt_b86_b89)))
    have F87_105 : Fld Z h102 b86 "java/lang/String" "coder" "B" (.int (0 : Int32)) := (Fld.other W102 (Fld.other W100 (Fld.other W98 (Fld.other W96 (Fld.other W94 (Fld.other W92 (Fld.ext E89 F87_0) (Or.inl (Nat.ne_of_lt lt_b86_b89))) (Or.inl (Nat.ne_of_lt lt_b86_b89))) (Or.inl (Nat.ne_of_lt lt_b86_b89))) (Or.inl (Nat.ne_of_lt lt_b86_b89))) (Or.inl (Nat.ne_of_lt lt_b86_b89))) (Or.inl (Nat.ne_of_lt lt_b86_b89)))
    have S_cs_106 : Sta Z h102 "java/lang/String" "COMPACT_STRINGS" "Z" (.int cs) := (Sta.wr W102 (Sta.wr W100 (Sta.wr W98 (Sta.wr W96 (Sta.wr W94 (Sta.wr W92 (Sta.ext E89 (Sta.ext E86 S_cs))))))))
    obtain ⟨kq107, Kq107⟩ := own_Arr.arv V102_0 (.int 0)
    have hp107 : ∀ c ∈ ([c0, c1, c2, c3, c4, c5] : List Int32), ¬ c < 0 ∧ ¬ (255 : Int32) < c := fun c hc => hok c (List.mem_of_mem_take (i := 6) (l := [c0, c1, c2, c3, c4, c5]) hc)
    refine own_callCB (W := 1) X102 hx hZ (y := (⟨"java/lang/String", "<init>", "([C)V"⟩ : MethodName)) (kc := 1) (ks := 6) rfl hown (own_w hw 12 rfl) (own_w hw 13 rfl) (own_w hw 14 rfl) (by decide) (by rw [hml]; rfl) (argsL := [(.ref b89)]) pd_2 rfl (a := b86) (StrChars.Road.backV (W := 1) hZ hws (kI := 4) (own_w hw 10 rfl) (cs := [c0, c1, c2, c3, c4, c5]) (bs := ([c0, c1, c2, c3, c4, c5] : List Int32).map (fun c => c.toInt8.toInt32)) (n := 6) g_b86 sz102 A86_103 F88_104 F87_105 Kq107 S_cs_106 hcs rfl rfl (by decide) (by decide) hp107 rfl (by decide) (by decide)) (Nat.le_of_eq rfl) (by decide) (by decide) (rest := [(.ref b86)]) e102 rfl (hb hby d2_214) ?_
    intro v108 T108 L108 X108 hQ108
    obtain ⟨rfl, N108q, K108q, E108, C108, t108, kb108, gt108, -, -, W108, A108⟩ := hQ108
    have N108 := Fr.app N102 N108q
    have sz108 : n0 ≤ T108.heap.size := Nat.le_trans sz102 K108q.1
    have K108 : Keep h0 T108.heap [] := K102.trans K108q (allS (Or.inr szk_b86) all0)
    show own_Go p e below _ T108 (mkF m 217 #[.val (.ref a1), .val (.int (6 : Int32))] [(.ref b86)])
    refine own_retR X108 hx hlk Bd.returns rfl rfl rfl (hb hby d2_217) rfl (by decide) (by decide) ?_
    exact ⟨b86, t108, kb108, rfl, N108, K108, E108, C108, W108, A108⟩
theorem ef_18 (m : MethodId) (a1 : Addr) (p2 : Int32) (p3 : Int32) : entryFrame m #[(.ref a1), (.int p2), (.int p3)] 6 = mkF m 0 #[.val (.ref a1), .val (.int p2), .val (.int p3), .unset, .unset, .unset] [] := by first | (simp [entryFrame, mkF, argsToLocals, Value.category]; done) | rfl
set_option maxRecDepth 65536 in
set_option maxHeartbeats 40000000 in
theorem rm18 (l : Launch) (Z : State) (a0 : Array Value) (hw : ∀ d ∈ tables_1, d.before a0 Z = true) (ws : List Jvm.Cond) (a1 : Addr) (p2 : Int32) (p3 : Int32) (ds : List Int32) (on : Nat) (j : Nat) (h0 : Heap) (n0 : Nat) (Z0 : n0 ≤ h0.size) (V_a1 : own_Arr Z h0 a1 .char (ds.map Value.int)) (hl : ds.length = 6) (hop : p2.toInt = (on : Int)) (hj : p3.toInt = (j : Int)) (hj0 : 0 < j) (hj6 : j < 6) :
    MetFree l (⟨"com/example/amendment_ledger/amendmentledger/ledger/TextClosingQuotePinLaw", "backslashesBefore", "([CII)I"⟩ : MethodName) (head1 (Jvm.Cond.code (⟨"com/example/amendment_ledger/amendmentledger/ledger/TextClosingQuotePinLaw", "backslashesBefore", "([CII)I"⟩ : MethodName) method_6_code 6 (some .int) :: ws) ({ frames := 0, cells := 0, slots := 0, locals := 0 } : Room)) (fun a U => a = #[(.ref a1), (.int p2), (.int p3)] ∧ Z.Warmed39 U.vm ∧ U.heap = h0) (fun _ _ _ _ _ => True) (fun _ U o U' => ∃ v L, o = .returned v ∧ QI (Int32.ofNat (own_bb 5 ds on (j - 1))) h0 n0 v U'.heap L ∧ FrameEnd U o U' L ({ frames := 0, cells := 0, slots := 0, locals := 0 } : Room).cells ({ frames := 0, cells := 0, slots := 0, locals := 0 } : Room).slots) := by
  refine MetFree.of_bodySF (plainFor_of_name pn_0) hisR ?_
  intro p e s m args below meth c s₁ Bd hml0 hP hK
  obtain ⟨rfl, hZ, hh⟩ := hP
  have hx := Bd.exec
  have hby := Bd.bytes
  have hml : c.maxLocals = 6 := hml0
  have hown : s.vm.findClass "com/example/amendment_ledger/amendmentledger/ledger/TextClosingQuotePinLaw" = some m.cls := findClass_of_methodNamed Bd.named
  have hnm := (name_of_methodNamed Bd.named Bd.method).1
  have hlk : meth.locks = false := BodyLoose.notSynchronized Bd
  have X0 : Stand p l e ({ frames := 0, cells := 0, slots := 0, locals := 0 } : Room) s m #[(.ref a1), (.int p2), (.int p3)] below meth c s₁ [] 0 0 := Stand.of_body Bd
  have e0 : s₁.heap = h0 := by rw [← hh, Bd.state]; rfl
  have N0 := Fr.nil n0
  refine own_start (Q := QI (Int32.ofNat (own_bb 5 ds on (j - 1))) h0 n0) (ef_18 m a1 p2 p3) ?_
  show own_Go p e below _ s₁ (mkF m 0 #[.val (.ref a1), .val (.int p2), .val (.int p3), .unset, .unset, .unset] [])
  refine own_by (fun t_ k_ => XS.iconst X0.here hx rfl (hb hby d18_0) k_) ?_
  show own_Go p e below _ s₁ (mkF m 1 #[.val (.ref a1), .val (.int p2), .val (.int p3), .unset, .unset, .unset] [(.int (0 : Int32))])
  refine own_by (fun t_ k_ => XS.istoreN X0.here hx rfl (hb hby d18_1) rfl (l' := #[.val (.ref a1), .val (.int p2), .val (.int p3), .val (.int (0 : Int32)), .unset, .unset]) rfl k_) ?_
  show own_Go p e below _ s₁ (mkF m 2 #[.val (.ref a1), .val (.int p2), .val (.int p3), .val (.int (0 : Int32)), .unset, .unset] [])
  refine own_by (fun t_ k_ => XS.iloadN X0.here hx rfl (hb hby d18_2) rfl k_) ?_
  show own_Go p e below _ s₁ (mkF m 3 #[.val (.ref a1), .val (.int p2), .val (.int p3), .val (.int (0 : Int32)), .unset, .unset] [(.int p3)])
  refine own_by (fun t_ k_ => XS.iconst X0.here hx rfl (hb hby d18_3) k_) ?_
  show own_Go p e below _ s₁ (mkF m 4 #[.val (.ref a1), .val (.int p2), .val (.int p3), .val (.int (0 : Int32)), .unset, .unset] [(.int (1 : Int32)), (.int p3)])
  refine own_by (fun t_ k_ => XS.isub X0.here hx rfl (hb hby d18_4) rfl k_) ?_
  show own_Go p e below _ s₁ (mkF m 5 #[.val (.ref a1), .val (.int p2), .val (.int p3), .val (.int (0 : Int32)), .unset, .unset] [(.int (p3 - (1 : Int32)))])
  refine own_by (fun t_ k_ => XS.istore X0.here hx rfl (hb hby d18_5) rfl (l' := #[.val (.ref a1), .val (.int p2), .val (.int p3), .val (.int (0 : Int32)), .val (.int (p3 - (1 : Int32))), .unset]) rfl k_) ?_
  show own_Go p e below _ s₁ (mkF m 7 #[.val (.ref a1), .val (.int p2), .val (.int p3), .val (.int (0 : Int32)), .val (.int (p3 - (1 : Int32))), .unset] [])
  refine own_by (fun t_ k_ => XS.iconst X0.here hx rfl (hb hby d18_7) k_) ?_
  show own_Go p e below _ s₁ (mkF m 8 #[.val (.ref a1), .val (.int p2), .val (.int p3), .val (.int (0 : Int32)), .val (.int (p3 - (1 : Int32))), .unset] [(.int (1 : Int32))])
  refine own_by (fun t_ k_ => XS.istore X0.here hx rfl (hb hby d18_8) rfl (l' := #[.val (.ref a1), .val (.int p2), .val (.int p3), .val (.int (0 : Int32)), .val (.int (p3 - (1 : Int32))), .val (.int (1 : Int32))]) rfl k_) ?_
  show own_Go p e below _ s₁ (mkF m 10 #[.val (.ref a1), .val (.int p2), .val (.int p3), .val (.int (0 : Int32)), .val (.int (p3 - (1 : Int32))), .val (.int (1 : Int32))] [])
  refine own_by (fun t_ k_ => XS.iload X0.here hx rfl (hb hby d18_10) rfl k_) ?_
  show own_Go p e below _ s₁ (mkF m 12 #[.val (.ref a1), .val (.int p2), .val (.int p3), .val (.int (0 : Int32)), .val (.int (p3 - (1 : Int32))), .val (.int (1 : Int32))] [(.int (1 : Int32))])
  refine own_if X0 hx 39 (hb hby d18_12) (by decide) (by decide) (fun hc => absurd (show ¬ (1 : Int32) = (0 : Int32) from by decide) (by first | exact hc | exact not_not_intro hc)) (fun _ => ?_)
  show own_Go p e below _ s₁ (mkF m 15 #[.val (.ref a1), .val (.int p2), .val (.int p3), .val (.int (0 : Int32)), .val (.int (p3 - (1 : Int32))), .val (.int (1 : Int32))] [])
  refine own_by (fun t_ k_ => XS.iload X0.here hx rfl (hb hby d18_15) rfl k_) ?_
  show own_Go p e below _ s₁ (mkF m 17 #[.val (.ref a1), .val (.int p2), .val (.int p3), .val (.int (0 : Int32)), .val (.int (p3 - (1 : Int32))), .val (.int (1 : Int32))] [(.int (p3 - (1 : Int32)))])
  refine own_by (fun t_ k_ => XS.iloadN X0.here hx rfl (hb hby d18_17) rfl k_) ?_
  show own_Go p e below _ s₁ (mkF m 18 #[.val (.ref a1), .val (.int p2), .val (.int p3), .val (.int (0 : Int32)), .val (.int (p3 - (1 : Int32))), .val (.int (1 : Int32))] [(.int p2), (.int (p3 - (1 : Int32)))])
  refine own_icmp X0 hx 39 (hb hby d18_18) (by decide) (by decide) (fun (hc18 : ¬ p2 < (p3 - (1 : Int32))) => ?_) (fun (hc18 : p2 < (p3 - (1 : Int32))) => ?_)
  · have hf : ¬ (on < (j - 1) ∧ ds.getD (j - 1) 0 = 92) := fun q => hc18 ((own_ltn hop (own_sub1 hj hj0)).mpr q.1)
    show own_Go p e below _ s₁ (mkF m 39 #[.val (.ref a1), .val (.int p2), .val (.int p3), .val (.int (0 : Int32)), .val (.int (p3 - (1 : Int32))), .val (.int (1 : Int32))] [])
    refine own_by (fun t_ k_ => XS.iconst X0.here hx rfl (hb hby d18_39) k_) ?_
    show own_Go p e below _ s₁ (mkF m 40 #[.val (.ref a1), .val (.int p2), .val (.int p3), .val (.int (0 : Int32)), .val (.int (p3 - (1 : Int32))), .val (.int (1 : Int32))] [(.int (0 : Int32))])
    refine own_by (fun t_ k_ => XS.istore X0.here hx rfl (hb hby d18_40) rfl (l' := #[.val (.ref a1), .val (.int p2), .val (.int p3), .val (.int (0 : Int32)), .val (.int (p3 - (1 : Int32))), .val (.int (0 : Int32))]) rfl k_) ?_
    show own_Go p e below _ s₁ (mkF m 42 #[.val (.ref a1), .val (.int p2), .val (.int p3), .val (.int (0 : Int32)), .val (.int (p3 - (1 : Int32))), .val (.int (0 : Int32))] [])
    refine own_by (fun t_ k_ => XS.iload X0.here hx rfl (hb hby d18_42) rfl k_) ?_
    show own_Go p e below _ s₁ (mkF m 44 #[.val (.ref a1), .val (.int p2), .val (.int p3), .val (.int (0 : Int32)), .val (.int (p3 - (1 : Int32))), .val (.int (0 : Int32))] [(.int (0 : Int32))])
    refine own_if X0 hx 71 (hb hby d18_44) (by decide) (by decide) (fun _ => ?_) (fun hc => absurd (show (0 : Int32) = (0 : Int32) from by decide) (by first | exact hc | exact not_not_intro hc))
    show own_Go p e below _ s₁ (mkF m 71 #[.val (.ref a1), .val (.int p2), .val (.int p3), .val (.int (0 : Int32)), .val (.int (p3 - (1 : Int32))), .val (.int (0 : Int32))] [])
    refine own_by (fun t_ k_ => XS.iconst X0.here hx rfl (hb hby d18_71) k_) ?_
    show own_Go p e below _ s₁ (mkF m 72 #[.val (.ref a1), .val (.int p2), .val (.int p3), .val (.int (0 : Int32)), .val (.int (p3 - (1 : Int32))), .val (.int (0 : Int32))] [(.int (0 : Int32))])
    refine own_by (fun t_ k_ => XS.istore X0.here hx rfl (hb hby d18_72) rfl (l' := #[.val (.ref a1), .val (.int p2), .val (.int p3), .val (.int (0 : Int32)), .val (.int (p3 - (1 : Int32))), .val (.int (0 : Int32))]) rfl k_) ?_
    show own_Go p e below _ s₁ (mkF m 74 #[.val (.ref a1), .val (.int p2), .val (.int p3), .val (.int (0 : Int32)), .val (.int (p3 - (1 : Int32))), .val (.int (0 : Int32))] [])
    refine own_by (fun t_ k_ => XS.iload X0.here hx rfl (hb hby d18_74) rfl k_) ?_
    show own_Go p e below _ s₁ (mkF m 76 #[.val (.ref a1), .val (.int p2), .val (.int p3), .val (.int (0 : Int32)), .val (.int (p3 - (1 : Int32))), .val (.int (0 : Int32))] [(.int (0 : Int32))])
    refine own_if X0 hx 103 (hb hby d18_76) (by decide) (by decide) (fun _ => ?_) (fun hc => absurd (show (0 : Int32) = (0 : Int32) from by decide) (by first | exact hc | exact not_not_intro hc))
    show own_Go p e below _ s₁ (mkF m 103 #[.val (.ref a1), .val (.int p2), .val (.int p3), .val (.int (0 : Int32)), .val (.int (p3 - (1 : Int32))), .val (.int (0 : Int32))] [])
    refine own_by (fun t_ k_ => XS.iconst X0.here hx rfl (hb hby d18_103) k_) ?_
    show own_Go p e below _ s₁ (mkF m 104 #[.val (.ref a1), .val (.int p2), .val (.int p3), .val (.int (0 : Int32)), .val (.int (p3 - (1 : Int32))), .val (.int (0 : Int32))] [(.int (0 : Int32))])
    refine own_by (fun t_ k_ => XS.istore X0.here hx rfl (hb hby d18_104) rfl (l' := #[.val (.ref a1), .val (.int p2), .val (.int p3), .val (.int (0 : Int32)), .val (.int (p3 - (1 : Int32))), .val (.int (0 : Int32))]) rfl k_) ?_
    show own_Go p e below _ s₁ (mkF m 106 #[.val (.ref a1), .val (.int p2), .val (.int p3), .val (.int (0 : Int32)), .val (.int (p3 - (1 : Int32))), .val (.int (0 : Int32))] [])
    refine own_by (fun t_ k_ => XS.iload X0.here hx rfl (hb hby d18_106) rfl k_) ?_
    show own_Go p e below _ s₁ (mkF m 108 #[.val (.ref a1), .val (.int p2), .val (.int p3), .val (.int (0 : Int32)), .val (.int (p3 - (1 : Int32))), .val (.int (0 : Int32))] [(.int (0 : Int32))])
    refine own_if X0 hx 135 (hb hby d18_108) (by decide) (by decide) (fun _ => ?_) (fun hc => absurd (show (0 : Int32) = (0 : Int32) from by decide) (by first | exact hc | exact not_not_intro hc))
    show own_Go p e below _ s₁ (mkF m 135 #[.val (.ref a1), .val (.int p2), .val (.int p3), .val (.int (0 : Int32)), .val (.int (p3 - (1 : Int32))), .val (.int (0 : Int32))] [])
    refine own_by (fun t_ k_ => XS.iconst X0.here hx rfl (hb hby d18_135) k_) ?_
    show own_Go p e below _ s₁ (mkF m 136 #[.val (.ref a1), .val (.int p2), .val (.int p3), .val (.int (0 : Int32)), .val (.int (p3 - (1 : Int32))), .val (.int (0 : Int32))] [(.int (0 : Int32))])
    refine own_by (fun t_ k_ => XS.istore X0.here hx rfl (hb hby d18_136) rfl (l' := #[.val (.ref a1), .val (.int p2), .val (.int p3), .val (.int (0 : Int32)), .val (.int (p3 - (1 : Int32))), .val (.int (0 : Int32))]) rfl k_) ?_
    show own_Go p e below _ s₁ (mkF m 138 #[.val (.ref a1), .val (.int p2), .val (.int p3), .val (.int (0 : Int32)), .val (.int (p3 - (1 : Int32))), .val (.int (0 : Int32))] [])
    refine own_by (fun t_ k_ => XS.iload X0.here hx rfl (hb hby d18_138) rfl k_) ?_
    show own_Go p e below _ s₁ (mkF m 140 #[.val (.ref a1), .val (.int p2), .val (.int p3), .val (.int (0 : Int32)), .val (.int (p3 - (1 : Int32))), .val (.int (0 : Int32))] [(.int (0 : Int32))])
    refine own_if X0 hx 167 (hb hby d18_140) (by decide) (by decide) (fun _ => ?_) (fun hc => absurd (show (0 : Int32) = (0 : Int32) from by decide) (by first | exact hc | exact not_not_intro hc))
    show own_Go p e below _ s₁ (mkF m 167 #[.val (.ref a1), .val (.int p2), .val (.int p3), .val (.int (0 : Int32)), .val (.int (p3 - (1 : Int32))), .val (.int (0 : Int32))] [])
    refine own_by (fun t_ k_ => XS.iconst X0.here hx rfl (hb hby d18_167) k_) ?_
    show own_Go p e below _ s₁ (mkF m 168 #[.val (.ref a1), .val (.int p2), .val (.int p3), .val (.int (0 : Int32)), .val (.int (p3 - (1 : Int32))), .val (.int (0 : Int32))] [(.int (0 : Int32))])
    refine own_by (fun t_ k_ => XS.istore X0.here hx rfl (hb hby d18_168) rfl (l' := #[.val (.ref a1), .val (.int p2), .val (.int p3), .val (.int (0 : Int32)), .val (.int (p3 - (1 : Int32))), .val (.int (0 : Int32))]) rfl k_) ?_
    show own_Go p e below _ s₁ (mkF m 170 #[.val (.ref a1), .val (.int p2), .val (.int p3), .val (.int (0 : Int32)), .val (.int (p3 - (1 : Int32))), .val (.int (0 : Int32))] [])
    refine own_by (fun t_ k_ => XS.iloadN X0.here hx rfl (hb hby d18_170) rfl k_) ?_
    show own_Go p e below _ s₁ (mkF m 171 #[.val (.ref a1), .val (.int p2), .val (.int p3), .val (.int (0 : Int32)), .val (.int (p3 - (1 : Int32))), .val (.int (0 : Int32))] [(.int (0 : Int32))])
    refine own_retI X0 hx hlk Bd.returns (hb hby d18_171) e0 (by decide) (by decide) ?_
    exact ⟨by rw [own_bb, if_neg hf]; rfl, N0, rfl⟩
  · show own_Go p e below _ s₁ (mkF m 21 #[.val (.ref a1), .val (.int p2), .val (.int p3), .val (.int (0 : Int32)), .val (.int (p3 - (1 : Int32))), .val (.int (1 : Int32))] [])
    refine own_by (fun t_ k_ => XS.aloadN X0.here hx rfl (hb hby d18_21) rfl rfl k_) ?_
    show own_Go p e below _ s₁ (mkF m 22 #[.val (.ref a1), .val (.int p2), .val (.int p3), .val (.int (0 : Int32)), .val (.int (p3 - (1 : Int32))), .val (.int (1 : Int32))] [(.ref a1)])
    refine own_by (fun t_ k_ => XS.iload X0.here hx rfl (hb hby d18_22) rfl k_) ?_
    show own_Go p e below _ s₁ (mkF m 24 #[.val (.ref a1), .val (.int p2), .val (.int p3), .val (.int (0 : Int32)), .val (.int (p3 - (1 : Int32))), .val (.int (1 : Int32))] [(.int (p3 - (1 : Int32))), (.ref a1)])
    refine own_caload X0 hx hZ e0 V_a1 (v := (.int (ds.getD (j - 1) 0))) (j - 1) (own_sub1 hj hj0) (own_get (by omega)) (hb hby d18_24) ?_
    show own_Go p e below _ s₁ (mkF m 25 #[.val (.ref a1), .val (.int p2), .val (.int p3), .val (.int (0 : Int32)), .val (.int (p3 - (1 : Int32))), .val (.int (1 : Int32))] [(.int (ds.getD (j - 1) 0))])
    refine own_by (fun t_ k_ => XS.bipush X0.here hx rfl (hb hby d18_25) k_) ?_
    show own_Go p e below _ s₁ (mkF m 27 #[.val (.ref a1), .val (.int p2), .val (.int p3), .val (.int (0 : Int32)), .val (.int (p3 - (1 : Int32))), .val (.int (1 : Int32))] [(.int (92 : Int32)), (.int (ds.getD (j - 1) 0))])
    refine own_icmp X0 hx 39 (hb hby d18_27) (by decide) (by decide) (fun (hc27 : ¬ (ds.getD (j - 1) 0) = (92 : Int32)) => ?_) (fun (hc27 : (ds.getD (j - 1) 0) = (92 : Int32)) => ?_)
    · have hf : ¬ (on < (j - 1) ∧ ds.getD (j - 1) 0 = 92) := fun q => hc27 q.2
      show own_Go p e below _ s₁ (mkF m 39 #[.val (.ref a1), .val (.int p2), .val (.int p3), .val (.int (0 : Int32)), .val (.int (p3 - (1 : Int32))), .val (.int (1 : Int32))] [])
      refine own_by (fun t_ k_ => XS.iconst X0.here hx rfl (hb hby d18_39) k_) ?_
      show own_Go p e below _ s₁ (mkF m 40 #[.val (.ref a1), .val (.int p2), .val (.int p3), .val (.int (0 : Int32)), .val (.int (p3 - (1 : Int32))), .val (.int (1 : Int32))] [(.int (0 : Int32))])
      refine own_by (fun t_ k_ => XS.istore X0.here hx rfl (hb hby d18_40) rfl (l' := #[.val (.ref a1), .val (.int p2), .val (.int p3), .val (.int (0 : Int32)), .val (.int (p3 - (1 : Int32))), .val (.int (0 : Int32))]) rfl k_) ?_
      show own_Go p e below _ s₁ (mkF m 42 #[.val (.ref a1), .val (.int p2), .val (.int p3), .val (.int (0 : Int32)), .val (.int (p3 - (1 : Int32))), .val (.int (0 : Int32))] [])
      refine own_by (fun t_ k_ => XS.iload X0.here hx rfl (hb hby d18_42) rfl k_) ?_
      show own_Go p e below _ s₁ (mkF m 44 #[.val (.ref a1), .val (.int p2), .val (.int p3), .val (.int (0 : Int32)), .val (.int (p3 - (1 : Int32))), .val (.int (0 : Int32))] [(.int (0 : Int32))])
      refine own_if X0 hx 71 (hb hby d18_44) (by decide) (by decide) (fun _ => ?_) (fun hc => absurd (show (0 : Int32) = (0 : Int32) from by decide) (by first | exact hc | exact not_not_intro hc))
      show own_Go p e below _ s₁ (mkF m 71 #[.val (.ref a1), .val (.int p2), .val (.int p3), .val (.int (0 : Int32)), .val (.int (p3 - (1 : Int32))), .val (.int (0 : Int32))] [])
      refine own_by (fun t_ k_ => XS.iconst X0.here hx rfl (hb hby d18_71) k_) ?_
      show own_Go p e below _ s₁ (mkF m 72 #[.val (.ref a1), .val (.int p2), .val (.int p3), .val (.int (0 : Int32)), .val (.int (p3 - (1 : Int32))), .val (.int (0 : Int32))] [(.int (0 : Int32))])
      refine own_by (fun t_ k_ => XS.istore X0.here hx rfl (hb hby d18_72) rfl (l' := #[.val (.ref a1), .val (.int p2), .val (.int p3), .val (.int (0 : Int32)), .val (.int (p3 - (1 : Int32))), .val (.int (0 : Int32))]) rfl k_) ?_
      show own_Go p e below _ s₁ (mkF m 74 #[.val (.ref a1), .val (.int p2), .val (.int p3), .val (.int (0 : Int32)), .val (.int (p3 - (1 : Int32))), .val (.int (0 : Int32))] [])
      refine own_by (fun t_ k_ => XS.iload X0.here hx rfl (hb hby d18_74) rfl k_) ?_
      show own_Go p e below _ s₁ (mkF m 76 #[.val (.ref a1), .val (.int p2), .val (.int p3), .val (.int (0 : Int32)), .val (.int (p3 - (1 : Int32))), .val (.int (0 : Int32))] [(.int (0 : Int32))])
      refine own_if X0 hx 103 (hb hby d18_76) (by decide) (by decide) (fun _ => ?_) (fun hc => absurd (show (0 : Int32) = (0 : Int32) from by decide) (by first | exact hc | exact not_not_intro hc))
      show own_Go p e below _ s₁ (mkF m 103 #[.val (.ref a1), .val (.int p2), .val (.int p3), .val (.int (0 : Int32)), .val (.int (p3 - (1 : Int32))), .val (.int (0 : Int32))] [])
      refine own_by (fun t_ k_ => XS.iconst X0.here hx rfl (hb hby d18_103) k_) ?_
      show own_Go p e below _ s₁ (mkF m 104 #[.val (.ref a1), .val (.int p2), .val (.int p3), .val (.int (0 : Int32)), .val (.int (p3 - (1 : Int32))), .val (.int (0 : Int32))] [(.int (0 : Int32))])
      refine own_by (fun t_ k_ => XS.istore X0.here hx rfl (hb hby d18_104) rfl (l' := #[.val (.ref a1), .val (.int p2), .val (.int p3), .val (.int (0 : Int32)), .val (.int (p3 - (1 : Int32))), .val (.int (0 : Int32))]) rfl k_) ?_
      show own_Go p e below _ s₁ (mkF m 106 #[.val (.ref a1), .val (.int p2), .val (.int p3), .val (.int (0 : Int32)), .val (.int (p3 - (1 : Int32))), .val (.int (0 : Int32))] [])
      refine own_by (fun t_ k_ => XS.iload X0.here hx rfl (hb hby d18_106) rfl k_) ?_
      show own_Go p e below _ s₁ (mkF m 108 #[.val (.ref a1), .val (.int p2), .val (.int p3), .val (.int (0 : Int32)), .val (.int (p3 - (1 : Int32))), .val (.int (0 : Int32))] [(.int (0 : Int32))])
      refine own_if X0 hx 135 (hb hby d18_108) (by decide) (by decide) (fun _ => ?_) (fun hc => absurd (show (0 : Int32) = (0 : Int32) from by decide) (by first | exact hc | exact not_not_intro hc))
      show own_Go p e below _ s₁ (mkF m 135 #[.val (.ref a1), .val (.int p2), .val (.int p3), .val (.int (0 : Int32)), .val (.int (p3 - (1 : Int32))), .val (.int (0 : Int32))] [])
      refine own_by (fun t_ k_ => XS.iconst X0.here hx rfl (hb hby d18_135) k_) ?_
      show own_Go p e below _ s₁ (mkF m 136 #[.val (.ref a1), .val (.int p2), .val (.int p3), .val (.int (0 : Int32)), .val (.int (p3 - (1 : Int32))), .val (.int (0 : Int32))] [(.int (0 : Int32))])
      refine own_by (fun t_ k_ => XS.istore X0.here hx rfl (hb hby d18_136) rfl (l' := #[.val (.ref a1), .val (.int p2), .val (.int p3), .val (.int (0 : Int32)), .val (.int (p3 - (1 : Int32))), .val (.int (0 : Int32))]) rfl k_) ?_
      show own_Go p e below _ s₁ (mkF m 138 #[.val (.ref a1), .val (.int p2), .val (.int p3), .val (.int (0 : Int32)), .val (.int (p3 - (1 : Int32))), .val (.int (0 : Int32))] [])
      refine own_by (fun t_ k_ => XS.iload X0.here hx rfl (hb hby d18_138) rfl k_) ?_
      show own_Go p e below _ s₁ (mkF m 140 #[.val (.ref a1), .val (.int p2), .val (.int p3), .val (.int (0 : Int32)), .val (.int (p3 - (1 : Int32))), .val (.int (0 : Int32))] [(.int (0 : Int32))])
      refine own_if X0 hx 167 (hb hby d18_140) (by decide) (by decide) (fun _ => ?_) (fun hc => absurd (show (0 : Int32) = (0 : Int32) from by decide) (by first | exact hc | exact not_not_intro hc))
      show own_Go p e below _ s₁ (mkF m 167 #[.val (.ref a1), .val (.int p2), .val (.int p3), .val (.int (0 : Int32)), .val (.int (p3 - (1 : Int32))), .val (.int (0 : Int32))] [])
      refine own_by (fun t_ k_ => XS.iconst X0.here hx rfl (hb hby d18_167) k_) ?_
      show own_Go p e below _ s₁ (mkF m 168 #[.val (.ref a1), .val (.int p2), .val (.int p3), .val (.int (0 : Int32)), .val (.int (p3 - (1 : Int32))), .val (.int (0 : Int32))] [(.int (0 : Int32))])
      refine own_by (fun t_ k_ => XS.istore X0.here hx rfl (hb hby d18_168) rfl (l' := #[.val (.ref a1), .val (.int p2), .val (.int p3), .val (.int (0 : Int32)), .val (.int (p3 - (1 : Int32))), .val (.int (0 : Int32))]) rfl k_) ?_
      show own_Go p e below _ s₁ (mkF m 170 #[.val (.ref a1), .val (.int p2), .val (.int p3), .val (.int (0 : Int32)), .val (.int (p3 - (1 : Int32))), .val (.int (0 : Int32))] [])
      refine own_by (fun t_ k_ => XS.iloadN X0.here hx rfl (hb hby d18_170) rfl k_) ?_
      show own_Go p e below _ s₁ (mkF m 171 #[.val (.ref a1), .val (.int p2), .val (.int p3), .val (.int (0 : Int32)), .val (.int (p3 - (1 : Int32))), .val (.int (0 : Int32))] [(.int (0 : Int32))])
      refine own_retI X0 hx hlk Bd.returns (hb hby d18_171) e0 (by decide) (by decide) ?_
      exact ⟨by rw [own_bb, if_neg hf]; rfl, N0, rfl⟩
    · have hp0 : on < (j - 1) ∧ ds.getD (j - 1) 0 = 92 := ⟨(own_ltn hop (own_sub1 hj hj0)).mp hc18, by simpa using hc27⟩
      show own_Go p e below _ s₁ (mkF m 30 #[.val (.ref a1), .val (.int p2), .val (.int p3), .val (.int (0 : Int32)), .val (.int (p3 - (1 : Int32))), .val (.int (1 : Int32))] [])
      refine own_by (fun t_ k_ => XS.iinc X0.here hx rfl (hb hby d18_30) rfl (l' := #[.val (.ref a1), .val (.int p2), .val (.int p3), .val (.int (1 : Int32)), .val (.int (p3 - (1 : Int32))), .val (.int (1 : Int32))]) rfl k_) ?_
      show own_Go p e below _ s₁ (mkF m 33 #[.val (.ref a1), .val (.int p2), .val (.int p3), .val (.int (1 : Int32)), .val (.int (p3 - (1 : Int32))), .val (.int (1 : Int32))] [])
      refine own_by (fun t_ k_ => XS.iinc X0.here hx rfl (hb hby d18_33) rfl (l' := #[.val (.ref a1), .val (.int p2), .val (.int p3), .val (.int (1 : Int32)), .val (.int ((p3 - (1 : Int32)) + (-1 : Int32))), .val (.int (1 : Int32))]) rfl k_) ?_
      show own_Go p e below _ s₁ (mkF m 36 #[.val (.ref a1), .val (.int p2), .val (.int p3), .val (.int (1 : Int32)), .val (.int ((p3 - (1 : Int32)) + (-1 : Int32))), .val (.int (1 : Int32))] [])
      refine own_by (fun t_ k_ => XS.goto X0.here hx rfl (pc0 := 36) (pc' := 42) rfl (hb hby d18_36) (by decide) (by decide) k_) ?_
      show own_Go p e below _ s₁ (mkF m 42 #[.val (.ref a1), .val (.int p2), .val (.int p3), .val (.int (1 : Int32)), .val (.int ((p3 - (1 : Int32)) + (-1 : Int32))), .val (.int (1 : Int32))] [])
      refine own_by (fun t_ k_ => XS.iload X0.here hx rfl (hb hby d18_42) rfl k_) ?_
      show own_Go p e below _ s₁ (mkF m 44 #[.val (.ref a1), .val (.int p2), .val (.int p3), .val (.int (1 : Int32)), .val (.int ((p3 - (1 : Int32)) + (-1 : Int32))), .val (.int (1 : Int32))] [(.int (1 : Int32))])
      refine own_if X0 hx 71 (hb hby d18_44) (by decide) (by decide) (fun hc => absurd (show ¬ (1 : Int32) = (0 : Int32) from by decide) (by first | exact hc | exact not_not_intro hc)) (fun _ => ?_)
      show own_Go p e below _ s₁ (mkF m 47 #[.val (.ref a1), .val (.int p2), .val (.int p3), .val (.int (1 : Int32)), .val (.int ((p3 - (1 : Int32)) + (-1 : Int32))), .val (.int (1 : Int32))] [])
      refine own_by (fun t_ k_ => XS.iload X0.here hx rfl (hb hby d18_47) rfl k_) ?_
      show own_Go p e below _ s₁ (mkF m 49 #[.val (.ref a1), .val (.int p2), .val (.int p3), .val (.int (1 : Int32)), .val (.int ((p3 - (1 : Int32)) + (-1 : Int32))), .val (.int (1 : Int32))] [(.int ((p3 - (1 : Int32)) + (-1 : Int32)))])
      refine own_by (fun t_ k_ => XS.iloadN X0.here hx rfl (hb hby d18_49) rfl k_) ?_
      show own_Go p e below _ s₁ (mkF m 50 #[.val (.ref a1), .val (.int p2), .val (.int p3), .val (.int (1 : Int32)), .val (.int ((p3 - (1 : Int32)) + (-1 : Int32))), .val (.int (1 : Int32))] [(.int p2), (.int ((p3 - (1 : Int32)) + (-1 : Int32)))])
      refine own_icmp X0 hx 71 (hb hby d18_50) (by decide) (by decide) (fun (hc50 : ¬ p2 < ((p3 - (1 : Int32)) + (-1 : Int32))) => ?_) (fun (hc50 : p2 < ((p3 - (1 : Int32)) + (-1 : Int32))) => ?_)
      · have hf : ¬ (on < ((j - 1) - 1) ∧ ds.getD ((j - 1) - 1) 0 = 92) := fun q => hc50 ((own_ltn hop (own_dec1 (own_sub1 hj hj0) (Nat.lt_of_le_of_lt (Nat.zero_le _) hp0.1))).mpr q.1)
        show own_Go p e below _ s₁ (mkF m 71 #[.val (.ref a1), .val (.int p2), .val (.int p3), .val (.int (1 : Int32)), .val (.int ((p3 - (1 : Int32)) + (-1 : Int32))), .val (.int (1 : Int32))] [])
        refine own_by (fun t_ k_ => XS.iconst X0.here hx rfl (hb hby d18_71) k_) ?_
        show own_Go p e below _ s₁ (mkF m 72 #[.val (.ref a1), .val (.int p2), .val (.int p3), .val (.int (1 : Int32)), .val (.int ((p3 - (1 : Int32)) + (-1 : Int32))), .val (.int (1 : Int32))] [(.int (0 : Int32))])
        refine own_by (fun t_ k_ => XS.istore X0.here hx rfl (hb hby d18_72) rfl (l' := #[.val (.ref a1), .val (.int p2), .val (.int p3), .val (.int (1 : Int32)), .val (.int ((p3 - (1 : Int32)) + (-1 : Int32))), .val (.int (0 : Int32))]) rfl k_) ?_
        show own_Go p e below _ s₁ (mkF m 74 #[.val (.ref a1), .val (.int p2), .val (.int p3), .val (.int (1 : Int32)), .val (.int ((p3 - (1 : Int32)) + (-1 : Int32))), .val (.int (0 : Int32))] [])
        refine own_by (fun t_ k_ => XS.iload X0.here hx rfl (hb hby d18_74) rfl k_) ?_
        show own_Go p e below _ s₁ (mkF m 76 #[.val (.ref a1), .val (.int p2), .val (.int p3), .val (.int (1 : Int32)), .val (.int ((p3 - (1 : Int32)) + (-1 : Int32))), .val (.int (0 : Int32))] [(.int (0 : Int32))])
        refine own_if X0 hx 103 (hb hby d18_76) (by decide) (by decide) (fun _ => ?_) (fun hc => absurd (show (0 : Int32) = (0 : Int32) from by decide) (by first | exact hc | exact not_not_intro hc))
        show own_Go p e below _ s₁ (mkF m 103 #[.val (.ref a1), .val (.int p2), .val (.int p3), .val (.int (1 : Int32)), .val (.int ((p3 - (1 : Int32)) + (-1 : Int32))), .val (.int (0 : Int32))] [])
        refine own_by (fun t_ k_ => XS.iconst X0.here hx rfl (hb hby d18_103) k_) ?_
        show own_Go p e below _ s₁ (mkF m 104 #[.val (.ref a1), .val (.int p2), .val (.int p3), .val (.int (1 : Int32)), .val (.int ((p3 - (1 : Int32)) + (-1 : Int32))), .val (.int (0 : Int32))] [(.int (0 : Int32))])
        refine own_by (fun t_ k_ => XS.istore X0.here hx rfl (hb hby d18_104) rfl (l' := #[.val (.ref a1), .val (.int p2), .val (.int p3), .val (.int (1 : Int32)), .val (.int ((p3 - (1 : Int32)) + (-1 : Int32))), .val (.int (0 : Int32))]) rfl k_) ?_
        show own_Go p e below _ s₁ (mkF m 106 #[.val (.ref a1), .val (.int p2), .val (.int p3), .val (.int (1 : Int32)), .val (.int ((p3 - (1 : Int32)) + (-1 : Int32))), .val (.int (0 : Int32))] [])
        refine own_by (fun t_ k_ => XS.iload X0.here hx rfl (hb hby d18_106) rfl k_) ?_
        show own_Go p e below _ s₁ (mkF m 108 #[.val (.ref a1), .val (.int p2), .val (.int p3), .val (.int (1 : Int32)), .val (.int ((p3 - (1 : Int32)) + (-1 : Int32))), .val (.int (0 : Int32))] [(.int (0 : Int32))])
        refine own_if X0 hx 135 (hb hby d18_108) (by decide) (by decide) (fun _ => ?_) (fun hc => absurd (show (0 : Int32) = (0 : Int32) from by decide) (by first | exact hc | exact not_not_intro hc))
        show own_Go p e below _ s₁ (mkF m 135 #[.val (.ref a1), .val (.int p2), .val (.int p3), .val (.int (1 : Int32)), .val (.int ((p3 - (1 : Int32)) + (-1 : Int32))), .val (.int (0 : Int32))] [])
        refine own_by (fun t_ k_ => XS.iconst X0.here hx rfl (hb hby d18_135) k_) ?_
        show own_Go p e below _ s₁ (mkF m 136 #[.val (.ref a1), .val (.int p2), .val (.int p3), .val (.int (1 : Int32)), .val (.int ((p3 - (1 : Int32)) + (-1 : Int32))), .val (.int (0 : Int32))] [(.int (0 : Int32))])
        refine own_by (fun t_ k_ => XS.istore X0.here hx rfl (hb hby d18_136) rfl (l' := #[.val (.ref a1), .val (.int p2), .val (.int p3), .val (.int (1 : Int32)), .val (.int ((p3 - (1 : Int32)) + (-1 : Int32))), .val (.int (0 : Int32))]) rfl k_) ?_
        show own_Go p e below _ s₁ (mkF m 138 #[.val (.ref a1), .val (.int p2), .val (.int p3), .val (.int (1 : Int32)), .val (.int ((p3 - (1 : Int32)) + (-1 : Int32))), .val (.int (0 : Int32))] [])
        refine own_by (fun t_ k_ => XS.iload X0.here hx rfl (hb hby d18_138) rfl k_) ?_
        show own_Go p e below _ s₁ (mkF m 140 #[.val (.ref a1), .val (.int p2), .val (.int p3), .val (.int (1 : Int32)), .val (.int ((p3 - (1 : Int32)) + (-1 : Int32))), .val (.int (0 : Int32))] [(.int (0 : Int32))])
        refine own_if X0 hx 167 (hb hby d18_140) (by decide) (by decide) (fun _ => ?_) (fun hc => absurd (show (0 : Int32) = (0 : Int32) from by decide) (by first | exact hc | exact not_not_intro hc))
        show own_Go p e below _ s₁ (mkF m 167 #[.val (.ref a1), .val (.int p2), .val (.int p3), .val (.int (1 : Int32)), .val (.int ((p3 - (1 : Int32)) + (-1 : Int32))), .val (.int (0 : Int32))] [])
        refine own_by (fun t_ k_ => XS.iconst X0.here hx rfl (hb hby d18_167) k_) ?_
        show own_Go p e below _ s₁ (mkF m 168 #[.val (.ref a1), .val (.int p2), .val (.int p3), .val (.int (1 : Int32)), .val (.int ((p3 - (1 : Int32)) + (-1 : Int32))), .val (.int (0 : Int32))] [(.int (0 : Int32))])
        refine own_by (fun t_ k_ => XS.istore X0.here hx rfl (hb hby d18_168) rfl (l' := #[.val (.ref a1), .val (.int p2), .val (.int p3), .val (.int (1 : Int32)), .val (.int ((p3 - (1 : Int32)) + (-1 : Int32))), .val (.int (0 : Int32))]) rfl k_) ?_
        show own_Go p e below _ s₁ (mkF m 170 #[.val (.ref a1), .val (.int p2), .val (.int p3), .val (.int (1 : Int32)), .val (.int ((p3 - (1 : Int32)) + (-1 : Int32))), .val (.int (0 : Int32))] [])
        refine own_by (fun t_ k_ => XS.iloadN X0.here hx rfl (hb hby d18_170) rfl k_) ?_
        show own_Go p e below _ s₁ (mkF m 171 #[.val (.ref a1), .val (.int p2), .val (.int p3), .val (.int (1 : Int32)), .val (.int ((p3 - (1 : Int32)) + (-1 : Int32))), .val (.int (0 : Int32))] [(.int (1 : Int32))])
        refine own_retI X0 hx hlk Bd.returns (hb hby d18_171) e0 (by decide) (by decide) ?_
        exact ⟨by rw [own_bb, if_pos hp0, own_bb, if_neg hf]; rfl, N0, rfl⟩
      · show own_Go p e below _ s₁ (mkF m 53 #[.val (.ref a1), .val (.int p2), .val (.int p3), .val (.int (1 : Int32)), .val (.int ((p3 - (1 : Int32)) + (-1 : Int32))), .val (.int (1 : Int32))] [])
        refine own_by (fun t_ k_ => XS.aloadN X0.here hx rfl (hb hby d18_53) rfl rfl k_) ?_
        show own_Go p e below _ s₁ (mkF m 54 #[.val (.ref a1), .val (.int p2), .val (.int p3), .val (.int (1 : Int32)), .val (.int ((p3 - (1 : Int32)) + (-1 : Int32))), .val (.int (1 : Int32))] [(.ref a1)])
        refine own_by (fun t_ k_ => XS.iload X0.here hx rfl (hb hby d18_54) rfl k_) ?_
        show own_Go p e below _ s₁ (mkF m 56 #[.val (.ref a1), .val (.int p2), .val (.int p3), .val (.int (1 : Int32)), .val (.int ((p3 - (1 : Int32)) + (-1 : Int32))), .val (.int (1 : Int32))] [(.int ((p3 - (1 : Int32)) + (-1 : Int32))), (.ref a1)])
        refine own_caload X0 hx hZ e0 V_a1 (v := (.int (ds.getD ((j - 1) - 1) 0))) ((j - 1) - 1) (own_dec1 (own_sub1 hj hj0) (Nat.lt_of_le_of_lt (Nat.zero_le _) hp0.1)) (own_get (by omega)) (hb hby d18_56) ?_
        show own_Go p e below _ s₁ (mkF m 57 #[.val (.ref a1), .val (.int p2), .val (.int p3), .val (.int (1 : Int32)), .val (.int ((p3 - (1 : Int32)) + (-1 : Int32))), .val (.int (1 : Int32))] [(.int (ds.getD ((j - 1) - 1) 0))])
        refine own_by (fun t_ k_ => XS.bipush X0.here hx rfl (hb hby d18_57) k_) ?_
        show own_Go p e below _ s₁ (mkF m 59 #[.val (.ref a1), .val (.int p2), .val (.int p3), .val (.int (1 : Int32)), .val (.int ((p3 - (1 : Int32)) + (-1 : Int32))), .val (.int (1 : Int32))] [(.int (92 : Int32)), (.int (ds.getD ((j - 1) - 1) 0))])
        refine own_icmp X0 hx 71 (hb hby d18_59) (by decide) (by decide) (fun (hc59 : ¬ (ds.getD ((j - 1) - 1) 0) = (92 : Int32)) => ?_) (fun (hc59 : (ds.getD ((j - 1) - 1) 0) = (92 : Int32)) => ?_)
        · have hf : ¬ (on < ((j - 1) - 1) ∧ ds.getD ((j - 1) - 1) 0 = 92) := fun q => hc59 q.2
          show own_Go p e below _ s₁ (mkF m 71 #[.val (.ref a1), .val (.int p2), .val (.int p3), .val (.int (1 : Int32)), .val (.int ((p3 - (1 : Int32)) + (-1 : Int32))), .val (.int (1 : Int32))] [])
          refine own_by (fun t_ k_ => XS.iconst X0.here hx rfl (hb hby d18_71) k_) ?_
          show own_Go p e below _ s₁ (mkF m 72 #[.val (.ref a1), .val (.int p2), .val (.int p3), .val (.int (1 : Int32)), .val (.int ((p3 - (1 : Int32)) + (-1 : Int32))), .val (.int (1 : Int32))] [(.int (0 : Int32))])
          refine own_by (fun t_ k_ => XS.istore X0.here hx rfl (hb hby d18_72) rfl (l' := #[.val (.ref a1), .val (.int p2), .val (.int p3), .val (.int (1 : Int32)), .val (.int ((p3 - (1 : Int32)) + (-1 : Int32))), .val (.int (0 : Int32))]) rfl k_) ?_
          show own_Go p e below _ s₁ (mkF m 74 #[.val (.ref a1), .val (.int p2), .val (.int p3), .val (.int (1 : Int32)), .val (.int ((p3 - (1 : Int32)) + (-1 : Int32))), .val (.int (0 : Int32))] [])
          refine own_by (fun t_ k_ => XS.iload X0.here hx rfl (hb hby d18_74) rfl k_) ?_
          show own_Go p e below _ s₁ (mkF m 76 #[.val (.ref a1), .val (.int p2), .val (.int p3), .val (.int (1 : Int32)), .val (.int ((p3 - (1 : Int32)) + (-1 : Int32))), .val (.int (0 : Int32))] [(.int (0 : Int32))])
          refine own_if X0 hx 103 (hb hby d18_76) (by decide) (by decide) (fun _ => ?_) (fun hc => absurd (show (0 : Int32) = (0 : Int32) from by decide) (by first | exact hc | exact not_not_intro hc))
          show own_Go p e below _ s₁ (mkF m 103 #[.val (.ref a1), .val (.int p2), .val (.int p3), .val (.int (1 : Int32)), .val (.int ((p3 - (1 : Int32)) + (-1 : Int32))), .val (.int (0 : Int32))] [])
          refine own_by (fun t_ k_ => XS.iconst X0.here hx rfl (hb hby d18_103) k_) ?_
          show own_Go p e below _ s₁ (mkF m 104 #[.val (.ref a1), .val (.int p2), .val (.int p3), .val (.int (1 : Int32)), .val (.int ((p3 - (1 : Int32)) + (-1 : Int32))), .val (.int (0 : Int32))] [(.int (0 : Int32))])
          refine own_by (fun t_ k_ => XS.istore X0.here hx rfl (hb hby d18_104) rfl (l' := #[.val (.ref a1), .val (.int p2), .val (.int p3), .val (.int (1 : Int32)), .val (.int ((p3 - (1 : Int32)) + (-1 : Int32))), .val (.int (0 : Int32))]) rfl k_) ?_
          show own_Go p e below _ s₁ (mkF m 106 #[.val (.ref a1), .val (.int p2), .val (.int p3), .val (.int (1 : Int32)), .val (.int ((p3 - (1 : Int32)) + (-1 : Int32))), .val (.int (0 : Int32))] [])
          refine own_by (fun t_ k_ => XS.iload X0.here hx rfl (hb hby d18_106) rfl k_) ?_
          show own_Go p e below _ s₁ (mkF m 108 #[.val (.ref a1), .val (.int p2), .val (.int p3), .val (.int (1 : Int32)), .val (.int ((p3 - (1 : Int32)) + (-1 : Int32))), .val (.int (0 : Int32))] [(.int (0 : Int32))])
          refine own_if X0 hx 135 (hb hby d18_108) (by decide) (by decide) (fun _ => ?_) (fun hc => absurd (show (0 : Int32) = (0 : Int32) from by decide) (by first | exact hc | exact not_not_intro hc))
          show own_Go p e below _ s₁ (mkF m 135 #[.val (.ref a1), .val (.int p2), .val (.int p3), .val (.int (1 : Int32)), .val (.int ((p3 - (1 : Int32)) + (-1 : Int32))), .val (.int (0 : Int32))] [])
          refine own_by (fun t_ k_ => XS.iconst X0.here hx rfl (hb hby d18_135) k_) ?_
          show own_Go p e below _ s₁ (mkF m 136 #[.val (.ref a1), .val (.int p2), .val (.int p3), .val (.int (1 : Int32)), .val (.int ((p3 - (1 : Int32)) + (-1 : Int32))), .val (.int (0 : Int32))] [(.int (0 : Int32))])
          refine own_by (fun t_ k_ => XS.istore X0.here hx rfl (hb hby d18_136) rfl (l' := #[.val (.ref a1), .val (.int p2), .val (.int p3), .val (.int (1 : Int32)), .val (.int ((p3 - (1 : Int32)) + (-1 : Int32))), .val (.int (0 : Int32))]) rfl k_) ?_
          show own_Go p e below _ s₁ (mkF m 138 #[.val (.ref a1), .val (.int p2), .val (.int p3), .val (.int (1 : Int32)), .val (.int ((p3 - (1 : Int32)) + (-1 : Int32))), .val (.int (0 : Int32))] [])
          refine own_by (fun t_ k_ => XS.iload X0.here hx rfl (hb hby d18_138) rfl k_) ?_
          show own_Go p e below _ s₁ (mkF m 140 #[.val (.ref a1), .val (.int p2), .val (.int p3), .val (.int (1 : Int32)), .val (.int ((p3 - (1 : Int32)) + (-1 : Int32))), .val (.int (0 : Int32))] [(.int (0 : Int32))])
          refine own_if X0 hx 167 (hb hby d18_140) (by decide) (by decide) (fun _ => ?_) (fun hc => absurd (show (0 : Int32) = (0 : Int32) from by decide) (by first | exact hc | exact not_not_intro hc))
          show own_Go p e below _ s₁ (mkF m 167 #[.val (.ref a1), .val (.int p2), .val (.int p3), .val (.int (1 : Int32)), .val (.int ((p3 - (1 : Int32)) + (-1 : Int32))), .val (.int (0 : Int32))] [])
          refine own_by (fun t_ k_ => XS.iconst X0.here hx rfl (hb hby d18_167) k_) ?_
          show own_Go p e below _ s₁ (mkF m 168 #[.val (.ref a1), .val (.int p2), .val (.int p3), .val (.int (1 : Int32)), .val (.int ((p3 - (1 : Int32)) + (-1 : Int32))), .val (.int (0 : Int32))] [(.int (0 : Int32))])
          refine own_by (fun t_ k_ => XS.istore X0.here hx rfl (hb hby d18_168) rfl (l' := #[.val (.ref a1), .val (.int p2), .val (.int p3), .val (.int (1 : Int32)), .val (.int ((p3 - (1 : Int32)) + (-1 : Int32))), .val (.int (0 : Int32))]) rfl k_) ?_
          show own_Go p e below _ s₁ (mkF m 170 #[.val (.ref a1), .val (.int p2), .val (.int p3), .val (.int (1 : Int32)), .val (.int ((p3 - (1 : Int32)) + (-1 : Int32))), .val (.int (0 : Int32))] [])
          refine own_by (fun t_ k_ => XS.iloadN X0.here hx rfl (hb hby d18_170) rfl k_) ?_
          show own_Go p e below _ s₁ (mkF m 171 #[.val (.ref a1), .val (.int p2), .val (.int p3), .val (.int (1 : Int32)), .val (.int ((p3 - (1 : Int32)) + (-1 : Int32))), .val (.int (0 : Int32))] [(.int (1 : Int32))])
          refine own_retI X0 hx hlk Bd.returns (hb hby d18_171) e0 (by decide) (by decide) ?_
          exact ⟨by rw [own_bb, if_pos hp0, own_bb, if_neg hf]; rfl, N0, rfl⟩
        · have hp1 : on < ((j - 1) - 1) ∧ ds.getD ((j - 1) - 1) 0 = 92 := ⟨(own_ltn hop (own_dec1 (own_sub1 hj hj0) (Nat.lt_of_le_of_lt (Nat.zero_le _) hp0.1))).mp hc50, by simpa using hc59⟩
          show own_Go p e below _ s₁ (mkF m 62 #[.val (.ref a1), .val (.int p2), .val (.int p3), .val (.int (1 : Int32)), .val (.int ((p3 - (1 : Int32)) + (-1 : Int32))), .val (.int (1 : Int32))] [])
          refine own_by (fun t_ k_ => XS.iinc X0.here hx rfl (hb hby d18_62) rfl (l' := #[.val (.ref a1), .val (.int p2), .val (.int p3), .val (.int (2 : Int32)), .val (.int ((p3 - (1 : Int32)) + (-1 : Int32))), .val (.int (1 : Int32))]) rfl k_) ?_
          show own_Go p e below _ s₁ (mkF m 65 #[.val (.ref a1), .val (.int p2), .val (.int p3), .val (.int (2 : Int32)), .val (.int ((p3 - (1 : Int32)) + (-1 : Int32))), .val (.int (1 : Int32))] [])
          refine own_by (fun t_ k_ => XS.iinc X0.here hx rfl (hb hby d18_65) rfl (l' := #[.val (.ref a1), .val (.int p2), .val (.int p3), .val (.int (2 : Int32)), .val (.int (((p3 - (1 : Int32)) + (-1 : Int32)) + (-1 : Int32))), .val (.int (1 : Int32))]) rfl k_) ?_
          show own_Go p e below _ s₁ (mkF m 68 #[.val (.ref a1), .val (.int p2), .val (.int p3), .val (.int (2 : Int32)), .val (.int (((p3 - (1 : Int32)) + (-1 : Int32)) + (-1 : Int32))), .val (.int (1 : Int32))] [])
          refine own_by (fun t_ k_ => XS.goto X0.here hx rfl (pc0 := 68) (pc' := 74) rfl (hb hby d18_68) (by decide) (by decide) k_) ?_
          show own_Go p e below _ s₁ (mkF m 74 #[.val (.ref a1), .val (.int p2), .val (.int p3), .val (.int (2 : Int32)), .val (.int (((p3 - (1 : Int32)) + (-1 : Int32)) + (-1 : Int32))), .val (.int (1 : Int32))] [])
          refine own_by (fun t_ k_ => XS.iload X0.here hx rfl (hb hby d18_74) rfl k_) ?_
          show own_Go p e below _ s₁ (mkF m 76 #[.val (.ref a1), .val (.int p2), .val (.int p3), .val (.int (2 : Int32)), .val (.int (((p3 - (1 : Int32)) + (-1 : Int32)) + (-1 : Int32))), .val (.int (1 : Int32))] [(.int (1 : Int32))])
          refine own_if X0 hx 103 (hb hby d18_76) (by decide) (by decide) (fun hc => absurd (show ¬ (1 : Int32) = (0 : Int32) from by decide) (by first | exact hc | exact not_not_intro hc)) (fun _ => ?_)
          show own_Go p e below _ s₁ (mkF m 79 #[.val (.ref a1), .val (.int p2), .val (.int p3), .val (.int (2 : Int32)), .val (.int (((p3 - (1 : Int32)) + (-1 : Int32)) + (-1 : Int32))), .val (.int (1 : Int32))] [])
          refine own_by (fun t_ k_ => XS.iload X0.here hx rfl (hb hby d18_79) rfl k_) ?_
          show own_Go p e below _ s₁ (mkF m 81 #[.val (.ref a1), .val (.int p2), .val (.int p3), .val (.int (2 : Int32)), .val (.int (((p3 - (1 : Int32)) + (-1 : Int32)) + (-1 : Int32))), .val (.int (1 : Int32))] [(.int (((p3 - (1 : Int32)) + (-1 : Int32)) + (-1 : Int32)))])
          refine own_by (fun t_ k_ => XS.iloadN X0.here hx rfl (hb hby d18_81) rfl k_) ?_
          show own_Go p e below _ s₁ (mkF m 82 #[.val (.ref a1), .val (.int p2), .val (.int p3), .val (.int (2 : Int32)), .val (.int (((p3 - (1 : Int32)) + (-1 : Int32)) + (-1 : Int32))), .val (.int (1 : Int32))] [(.int p2), (.int (((p3 - (1 : Int32)) + (-1 : Int32)) + (-1 : Int32)))])
          refine own_icmp X0 hx 103 (hb hby d18_82) (by decide) (by decide) (fun (hc82 : ¬ p2 < (((p3 - (1 : Int32)) + (-1 : Int32)) + (-1 : Int32))) => ?_) (fun (hc82 : p2 < (((p3 - (1 : Int32)) + (-1 : Int32)) + (-1 : Int32))) => ?_)
          · have hf : ¬ (on < (((j - 1) - 1) - 1) ∧ ds.getD (((j - 1) - 1) - 1) 0 = 92) := fun q => hc82 ((own_ltn hop (own_dec1 (own_dec1 (own_sub1 hj hj0) (Nat.lt_of_le_of_lt (Nat.zero_le _) hp0.1)) (Nat.lt_of_le_of_lt (Nat.zero_le _) hp1.1))).mpr q.1)
            show own_Go p e below _ s₁ (mkF m 103 #[.val (.ref a1), .val (.int p2), .val (.int p3), .val (.int (2 : Int32)), .val (.int (((p3 - (1 : Int32)) + (-1 : Int32)) + (-1 : Int32))), .val (.int (1 : Int32))] [])
            refine own_by (fun t_ k_ => XS.iconst X0.here hx rfl (hb hby d18_103) k_) ?_
            show own_Go p e below _ s₁ (mkF m 104 #[.val (.ref a1), .val (.int p2), .val (.int p3), .val (.int (2 : Int32)), .val (.int (((p3 - (1 : Int32)) + (-1 : Int32)) + (-1 : Int32))), .val (.int (1 : Int32))] [(.int (0 : Int32))])
            refine own_by (fun t_ k_ => XS.istore X0.here hx rfl (hb hby d18_104) rfl (l' := #[.val (.ref a1), .val (.int p2), .val (.int p3), .val (.int (2 : Int32)), .val (.int (((p3 - (1 : Int32)) + (-1 : Int32)) + (-1 : Int32))), .val (.int (0 : Int32))]) rfl k_) ?_
            show own_Go p e below _ s₁ (mkF m 106 #[.val (.ref a1), .val (.int p2), .val (.int p3), .val (.int (2 : Int32)), .val (.int (((p3 - (1 : Int32)) + (-1 : Int32)) + (-1 : Int32))), .val (.int (0 : Int32))] [])
            refine own_by (fun t_ k_ => XS.iload X0.here hx rfl (hb hby d18_106) rfl k_) ?_
            show own_Go p e below _ s₁ (mkF m 108 #[.val (.ref a1), .val (.int p2), .val (.int p3), .val (.int (2 : Int32)), .val (.int (((p3 - (1 : Int32)) + (-1 : Int32)) + (-1 : Int32))), .val (.int (0 : Int32))] [(.int (0 : Int32))])
            refine own_if X0 hx 135 (hb hby d18_108) (by decide) (by decide) (fun _ => ?_) (fun hc => absurd (show (0 : Int32) = (0 : Int32) from by decide) (by first | exact hc | exact not_not_intro hc))
            show own_Go p e below _ s₁ (mkF m 135 #[.val (.ref a1), .val (.int p2), .val (.int p3), .val (.int (2 : Int32)), .val (.int (((p3 - (1 : Int32)) + (-1 : Int32)) + (-1 : Int32))), .val (.int (0 : Int32))] [])
            refine own_by (fun t_ k_ => XS.iconst X0.here hx rfl (hb hby d18_135) k_) ?_
            show own_Go p e below _ s₁ (mkF m 136 #[.val (.ref a1), .val (.int p2), .val (.int p3), .val (.int (2 : Int32)), .val (.int (((p3 - (1 : Int32)) + (-1 : Int32)) + (-1 : Int32))), .val (.int (0 : Int32))] [(.int (0 : Int32))])
            refine own_by (fun t_ k_ => XS.istore X0.here hx rfl (hb hby d18_136) rfl (l' := #[.val (.ref a1), .val (.int p2), .val (.int p3), .val (.int (2 : Int32)), .val (.int (((p3 - (1 : Int32)) + (-1 : Int32)) + (-1 : Int32))), .val (.int (0 : Int32))]) rfl k_) ?_
            show own_Go p e below _ s₁ (mkF m 138 #[.val (.ref a1), .val (.int p2), .val (.int p3), .val (.int (2 : Int32)), .val (.int (((p3 - (1 : Int32)) + (-1 : Int32)) + (-1 : Int32))), .val (.int (0 : Int32))] [])
            refine own_by (fun t_ k_ => XS.iload X0.here hx rfl (hb hby d18_138) rfl k_) ?_
            show own_Go p e below _ s₁ (mkF m 140 #[.val (.ref a1), .val (.int p2), .val (.int p3), .val (.int (2 : Int32)), .val (.int (((p3 - (1 : Int32)) + (-1 : Int32)) + (-1 : Int32))), .val (.int (0 : Int32))] [(.int (0 : Int32))])
            refine own_if X0 hx 167 (hb hby d18_140) (by decide) (by decide) (fun _ => ?_) (fun hc => absurd (show (0 : Int32) = (0 : Int32) from by decide) (by first | exact hc | exact not_not_intro hc))
            show own_Go p e below _ s₁ (mkF m 167 #[.val (.ref a1), .val (.int p2), .val (.int p3), .val (.int (2 : Int32)), .val (.int (((p3 - (1 : Int32)) + (-1 : Int32)) + (-1 : Int32))), .val (.int (0 : Int32))] [])
            refine own_by (fun t_ k_ => XS.iconst X0.here hx rfl (hb hby d18_167) k_) ?_
            show own_Go p e below _ s₁ (mkF m 168 #[.val (.ref a1), .val (.int p2), .val (.int p3), .val (.int (2 : Int32)), .val (.int (((p3 - (1 : Int32)) + (-1 : Int32)) + (-1 : Int32))), .val (.int (0 : Int32))] [(.int (0 : Int32))])
            refine own_by (fun t_ k_ => XS.istore X0.here hx rfl (hb hby d18_168) rfl (l' := #[.val (.ref a1), .val (.int p2), .val (.int p3), .val (.int (2 : Int32)), .val (.int (((p3 - (1 : Int32)) + (-1 : Int32)) + (-1 : Int32))), .val (.int (0 : Int32))]) rfl k_) ?_
            show own_Go p e below _ s₁ (mkF m 170 #[.val (.ref a1), .val (.int p2), .val (.int p3), .val (.int (2 : Int32)), .val (.int (((p3 - (1 : Int32)) + (-1 : Int32)) + (-1 : Int32))), .val (.int (0 : Int32))] [])
            refine own_by (fun t_ k_ => XS.iloadN X0.here hx rfl (hb hby d18_170) rfl k_) ?_
            show own_Go p e below _ s₁ (mkF m 171 #[.val (.ref a1), .val (.int p2), .val (.int p3), .val (.int (2 : Int32)), .val (.int (((p3 - (1 : Int32)) + (-1 : Int32)) + (-1 : Int32))), .val (.int (0 : Int32))] [(.int (2 : Int32))])
            refine own_retI X0 hx hlk Bd.returns (hb hby d18_171) e0 (by decide) (by decide) ?_
            exact ⟨by rw [own_bb, if_pos hp0, own_bb, if_pos hp1, own_bb, if_neg hf]; rfl, N0, rfl⟩
          · show own_Go p e below _ s₁ (mkF m 85 #[.val (.ref a1), .val (.int p2), .val (.int p3), .val (.int (2 : Int32)), .val (.int (((p3 - (1 : Int32)) + (-1 : Int32)) + (-1 : Int32))), .val (.int (1 : Int32))] [])
            refine own_by (fun t_ k_ => XS.aloadN X0.here hx rfl (hb hby d18_85) rfl rfl k_) ?_
            show own_Go p e below _ s₁ (mkF m 86 #[.val (.ref a1), .val (.int p2), .val (.int p3), .val (.int (2 : Int32)), .val (.int (((p3 - (1 : Int32)) + (-1 : Int32)) + (-1 : Int32))), .val (.int (1 : Int32))] [(.ref a1)])
            refine own_by (fun t_ k_ => XS.iload X0.here hx rfl (hb hby d18_86) rfl k_) ?_
            show own_Go p e below _ s₁ (mkF m 88 #[.val (.ref a1), .val (.int p2), .val (.int p3), .val (.int (2 : Int32)), .val (.int (((p3 - (1 : Int32)) + (-1 : Int32)) + (-1 : Int32))), .val (.int (1 : Int32))] [(.int (((p3 - (1 : Int32)) + (-1 : Int32)) + (-1 : Int32))), (.ref a1)])
            refine own_caload X0 hx hZ e0 V_a1 (v := (.int (ds.getD (((j - 1) - 1) - 1) 0))) (((j - 1) - 1) - 1) (own_dec1 (own_dec1 (own_sub1 hj hj0) (Nat.lt_of_le_of_lt (Nat.zero_le _) hp0.1)) (Nat.lt_of_le_of_lt (Nat.zero_le _) hp1.1)) (own_get (by omega)) (hb hby d18_88) ?_
            show own_Go p e below _ s₁ (mkF m 89 #[.val (.ref a1), .val (.int p2), .val (.int p3), .val (.int (2 : Int32)), .val (.int (((p3 - (1 : Int32)) + (-1 : Int32)) + (-1 : Int32))), .val (.int (1 : Int32))] [(.int (ds.getD (((j - 1) - 1) - 1) 0))])
            refine own_by (fun t_ k_ => XS.bipush X0.here hx rfl (hb hby d18_89) k_) ?_
            show own_Go p e below _ s₁ (mkF m 91 #[.val (.ref a1), .val (.int p2), .val (.int p3), .val (.int (2 : Int32)), .val (.int (((p3 - (1 : Int32)) + (-1 : Int32)) + (-1 : Int32))), .val (.int (1 : Int32))] [(.int (92 : Int32)), (.int (ds.getD (((j - 1) - 1) - 1) 0))])
            refine own_icmp X0 hx 103 (hb hby d18_91) (by decide) (by decide) (fun (hc91 : ¬ (ds.getD (((j - 1) - 1) - 1) 0) = (92 : Int32)) => ?_) (fun (hc91 : (ds.getD (((j - 1) - 1) - 1) 0) = (92 : Int32)) => ?_)
            · have hf : ¬ (on < (((j - 1) - 1) - 1) ∧ ds.getD (((j - 1) - 1) - 1) 0 = 92) := fun q => hc91 q.2
              show own_Go p e below _ s₁ (mkF m 103 #[.val (.ref a1), .val (.int p2), .val (.int p3), .val (.int (2 : Int32)), .val (.int (((p3 - (1 : Int32)) + (-1 : Int32)) + (-1 : Int32))), .val (.int (1 : Int32))] [])
              refine own_by (fun t_ k_ => XS.iconst X0.here hx rfl (hb hby d18_103) k_) ?_
              show own_Go p e below _ s₁ (mkF m 104 #[.val (.ref a1), .val (.int p2), .val (.int p3), .val (.int (2 : Int32)), .val (.int (((p3 - (1 : Int32)) + (-1 : Int32)) + (-1 : Int32))), .val (.int (1 : Int32))] [(.int (0 : Int32))])
              refine own_by (fun t_ k_ => XS.istore X0.here hx rfl (hb hby d18_104) rfl (l' := #[.val (.ref a1), .val (.int p2), .val (.int p3), .val (.int (2 : Int32)), .val (.int (((p3 - (1 : Int32)) + (-1 : Int32)) + (-1 : Int32))), .val (.int (0 : Int32))]) rfl k_) ?_
              show own_Go p e below _ s₁ (mkF m 106 #[.val (.ref a1), .val (.int p2), .val (.int p3), .val (.int (2 : Int32)), .val (.int (((p3 - (1 : Int32)) + (-1 : Int32)) + (-1 : Int32))), .val (.int (0 : Int32))] [])
              refine own_by (fun t_ k_ => XS.iload X0.here hx rfl (hb hby d18_106) rfl k_) ?_
              show own_Go p e below _ s₁ (mkF m 108 #[.val (.ref a1), .val (.int p2), .val (.int p3), .val (.int (2 : Int32)), .val (.int (((p3 - (1 : Int32)) + (-1 : Int32)) + (-1 : Int32))), .val (.int (0 : Int32))] [(.int (0 : Int32))])
              refine own_if X0 hx 135 (hb hby d18_108) (by decide) (by decide) (fun _ => ?_) (fun hc => absurd (show (0 : Int32) = (0 : Int32) from by decide) (by first | exact hc | exact not_not_intro hc))
              show own_Go p e below _ s₁ (mkF m 135 #[.val (.ref a1), .val (.int p2), .val (.int p3), .val (.int (2 : Int32)), .val (.int (((p3 - (1 : Int32)) + (-1 : Int32)) + (-1 : Int32))), .val (.int (0 : Int32))] [])
              refine own_by (fun t_ k_ => XS.iconst X0.here hx rfl (hb hby d18_135) k_) ?_
              show own_Go p e below _ s₁ (mkF m 136 #[.val (.ref a1), .val (.int p2), .val (.int p3), .val (.int (2 : Int32)), .val (.int (((p3 - (1 : Int32)) + (-1 : Int32)) + (-1 : Int32))), .val (.int (0 : Int32))] [(.int (0 : Int32))])
              refine own_by (fun t_ k_ => XS.istore X0.here hx rfl (hb hby d18_136) rfl (l' := #[.val (.ref a1), .val (.int p2), .val (.int p3), .val (.int (2 : Int32)), .val (.int (((p3 - (1 : Int32)) + (-1 : Int32)) + (-1 : Int32))), .val (.int (0 : Int32))]) rfl k_) ?_
              show own_Go p e below _ s₁ (mkF m 138 #[.val (.ref a1), .val (.int p2), .val (.int p3), .val (.int (2 : Int32)), .val (.int (((p3 - (1 : Int32)) + (-1 : Int32)) + (-1 : Int32))), .val (.int (0 : Int32))] [])
              refine own_by (fun t_ k_ => XS.iload X0.here hx rfl (hb hby d18_138) rfl k_) ?_
              show own_Go p e below _ s₁ (mkF m 140 #[.val (.ref a1), .val (.int p2), .val (.int p3), .val (.int (2 : Int32)), .val (.int (((p3 - (1 : Int32)) + (-1 : Int32)) + (-1 : Int32))), .val (.int (0 : Int32))] [(.int (0 : Int32))])
              refine own_if X0 hx 167 (hb hby d18_140) (by decide) (by decide) (fun _ => ?_) (fun hc => absurd (show (0 : Int32) = (0 : Int32) from by decide) (by first | exact hc | exact not_not_intro hc))
              show own_Go p e below _ s₁ (mkF m 167 #[.val (.ref a1), .val (.int p2), .val (.int p3), .val (.int (2 : Int32)), .val (.int (((p3 - (1 : Int32)) + (-1 : Int32)) + (-1 : Int32))), .val (.int (0 : Int32))] [])
              refine own_by (fun t_ k_ => XS.iconst X0.here hx rfl (hb hby d18_167) k_) ?_
              show own_Go p e below _ s₁ (mkF m 168 #[.val (.ref a1), .val (.int p2), .val (.int p3), .val (.int (2 : Int32)), .val (.int (((p3 - (1 : Int32)) + (-1 : Int32)) + (-1 : Int32))), .val (.int (0 : Int32))] [(.int (0 : Int32))])
              refine own_by (fun t_ k_ => XS.istore X0.here hx rfl (hb hby d18_168) rfl (l' := #[.val (.ref a1), .val (.int p2), .val (.int p3), .val (.int (2 : Int32)), .val (.int (((p3 - (1 : Int32)) + (-1 : Int32)) + (-1 : Int32))), .val (.int (0 : Int32))]) rfl k_) ?_
              show own_Go p e below _ s₁ (mkF m 170 #[.val (.ref a1), .val (.int p2), .val (.int p3), .val (.int (2 : Int32)), .val (.int (((p3 - (1 : Int32)) + (-1 : Int32)) + (-1 : Int32))), .val (.int (0 : Int32))] [])
              refine own_by (fun t_ k_ => XS.iloadN X0.here hx rfl (hb hby d18_170) rfl k_) ?_
              show own_Go p e below _ s₁ (mkF m 171 #[.val (.ref a1), .val (.int p2), .val (.int p3), .val (.int (2 : Int32)), .val (.int (((p3 - (1 : Int32)) + (-1 : Int32)) + (-1 : Int32))), .val (.int (0 : Int32))] [(.int (2 : Int32))])
              refine own_retI X0 hx hlk Bd.returns (hb hby d18_171) e0 (by decide) (by decide) ?_
              exact ⟨by rw [own_bb, if_pos hp0, own_bb, if_pos hp1, own_bb, if_neg hf]; rfl, N0, rfl⟩
            · have hp2 : on < (((j - 1) - 1) - 1) ∧ ds.getD (((j - 1) - 1) - 1) 0 = 92 := ⟨(own_ltn hop (own_dec1 (own_dec1 (own_sub1 hj hj0) (Nat.lt_of_le_of_lt (Nat.zero_le _) hp0.1)) (Nat.lt_of_le_of_lt (Nat.zero_le _) hp1.1))).mp hc82, by simpa using hc91⟩
              show own_Go p e below _ s₁ (mkF m 94 #[.val (.ref a1), .val (.int p2), .val (.int p3), .val (.int (2 : Int32)), .val (.int (((p3 - (1 : Int32)) + (-1 : Int32)) + (-1 : Int32))), .val (.int (1 : Int32))] [])
              refine own_by (fun t_ k_ => XS.iinc X0.here hx rfl (hb hby d18_94) rfl (l' := #[.val (.ref a1), .val (.int p2), .val (.int p3), .val (.int (3 : Int32)), .val (.int (((p3 - (1 : Int32)) + (-1 : Int32)) + (-1 : Int32))), .val (.int (1 : Int32))]) rfl k_) ?_
              show own_Go p e below _ s₁ (mkF m 97 #[.val (.ref a1), .val (.int p2), .val (.int p3), .val (.int (3 : Int32)), .val (.int (((p3 - (1 : Int32)) + (-1 : Int32)) + (-1 : Int32))), .val (.int (1 : Int32))] [])
              refine own_by (fun t_ k_ => XS.iinc X0.here hx rfl (hb hby d18_97) rfl (l' := #[.val (.ref a1), .val (.int p2), .val (.int p3), .val (.int (3 : Int32)), .val (.int ((((p3 - (1 : Int32)) + (-1 : Int32)) + (-1 : Int32)) + (-1 : Int32))), .val (.int (1 : Int32))]) rfl k_) ?_
              show own_Go p e below _ s₁ (mkF m 100 #[.val (.ref a1), .val (.int p2), .val (.int p3), .val (.int (3 : Int32)), .val (.int ((((p3 - (1 : Int32)) + (-1 : Int32)) + (-1 : Int32)) + (-1 : Int32))), .val (.int (1 : Int32))] [])
              refine own_by (fun t_ k_ => XS.goto X0.here hx rfl (pc0 := 100) (pc' := 106) rfl (hb hby d18_100) (by decide) (by decide) k_) ?_
              show own_Go p e below _ s₁ (mkF m 106 #[.val (.ref a1), .val (.int p2), .val (.int p3), .val (.int (3 : Int32)), .val (.int ((((p3 - (1 : Int32)) + (-1 : Int32)) + (-1 : Int32)) + (-1 : Int32))), .val (.int (1 : Int32))] [])
              refine own_by (fun t_ k_ => XS.iload X0.here hx rfl (hb hby d18_106) rfl k_) ?_
              show own_Go p e below _ s₁ (mkF m 108 #[.val (.ref a1), .val (.int p2), .val (.int p3), .val (.int (3 : Int32)), .val (.int ((((p3 - (1 : Int32)) + (-1 : Int32)) + (-1 : Int32)) + (-1 : Int32))), .val (.int (1 : Int32))] [(.int (1 : Int32))])
              refine own_if X0 hx 135 (hb hby d18_108) (by decide) (by decide) (fun hc => absurd (show ¬ (1 : Int32) = (0 : Int32) from by decide) (by first | exact hc | exact not_not_intro hc)) (fun _ => ?_)
              show own_Go p e below _ s₁ (mkF m 111 #[.val (.ref a1), .val (.int p2), .val (.int p3), .val (.int (3 : Int32)), .val (.int ((((p3 - (1 : Int32)) + (-1 : Int32)) + (-1 : Int32)) + (-1 : Int32))), .val (.int (1 : Int32))] [])
              refine own_by (fun t_ k_ => XS.iload X0.here hx rfl (hb hby d18_111) rfl k_) ?_
              show own_Go p e below _ s₁ (mkF m 113 #[.val (.ref a1), .val (.int p2), .val (.int p3), .val (.int (3 : Int32)), .val (.int ((((p3 - (1 : Int32)) + (-1 : Int32)) + (-1 : Int32)) + (-1 : Int32))), .val (.int (1 : Int32))] [(.int ((((p3 - (1 : Int32)) + (-1 : Int32)) + (-1 : Int32)) + (-1 : Int32)))])
              refine own_by (fun t_ k_ => XS.iloadN X0.here hx rfl (hb hby d18_113) rfl k_) ?_
              show own_Go p e below _ s₁ (mkF m 114 #[.val (.ref a1), .val (.int p2), .val (.int p3), .val (.int (3 : Int32)), .val (.int ((((p3 - (1 : Int32)) + (-1 : Int32)) + (-1 : Int32)) + (-1 : Int32))), .val (.int (1 : Int32))] [(.int p2), (.int ((((p3 - (1 : Int32)) + (-1 : Int32)) + (-1 : Int32)) + (-1 : Int32)))])
              refine own_icmp X0 hx 135 (hb hby d18_114) (by decide) (by decide) (fun (hc114 : ¬ p2 < ((((p3 - (1 : Int32)) + (-1 : Int32)) + (-1 : Int32)) + (-1 : Int32))) => ?_) (fun (hc114 : p2 < ((((p3 - (1 : Int32)) + (-1 : Int32)) + (-1 : Int32)) + (-1 : Int32))) => ?_)
              · have hf : ¬ (on < ((((j - 1) - 1) - 1) - 1) ∧ ds.getD ((((j - 1) - 1) - 1) - 1) 0 = 92) := fun q => hc114 ((own_ltn hop (own_dec1 (own_dec1 (own_dec1 (own_sub1 hj hj0) (Nat.lt_of_le_of_lt (Nat.zero_le _) hp0.1)) (Nat.lt_of_le_of_lt (Nat.zero_le _) hp1.1)) (Nat.lt_of_le_of_lt (Nat.zero_le _) hp2.1))).mpr q.1)
                show own_Go p e below _ s₁ (mkF m 135 #[.val (.ref a1), .val (.int p2), .val (.int p3), .val (.int (3 : Int32)), .val (.int ((((p3 - (1 : Int32)) + (-1 : Int32)) + (-1 : Int32)) + (-1 : Int32))), .val (.int (1 : Int32))] [])
                refine own_by (fun t_ k_ => XS.iconst X0.here hx rfl (hb hby d18_135) k_) ?_
                show own_Go p e below _ s₁ (mkF m 136 #[.val (.ref a1), .val (.int p2), .val (.int p3), .val (.int (3 : Int32)), .val (.int ((((p3 - (1 : Int32)) + (-1 : Int32)) + (-1 : Int32)) + (-1 : Int32))), .val (.int (1 : Int32))] [(.int (0 : Int32))])
                refine own_by (fun t_ k_ => XS.istore X0.here hx rfl (hb hby d18_136) rfl (l' := #[.val (.ref a1), .val (.int p2), .val (.int p3), .val (.int (3 : Int32)), .val (.int ((((p3 - (1 : Int32)) + (-1 : Int32)) + (-1 : Int32)) + (-1 : Int32))), .val (.int (0 : Int32))]) rfl k_) ?_
                show own_Go p e below _ s₁ (mkF m 138 #[.val (.ref a1), .val (.int p2), .val (.int p3), .val (.int (3 : Int32)), .val (.int ((((p3 - (1 : Int32)) + (-1 : Int32)) + (-1 : Int32)) + (-1 : Int32))), .val (.int (0 : Int32))] [])
                refine own_by (fun t_ k_ => XS.iload X0.here hx rfl (hb hby d18_138) rfl k_) ?_
                show own_Go p e below _ s₁ (mkF m 140 #[.val (.ref a1), .val (.int p2), .val (.int p3), .val (.int (3 : Int32)), .val (.int ((((p3 - (1 : Int32)) + (-1 : Int32)) + (-1 : Int32)) + (-1 : Int32))), .val (.int (0 : Int32))] [(.int (0 : Int32))])
                refine own_if X0 hx 167 (hb hby d18_140) (by decide) (by decide) (fun _ => ?_) (fun hc => absurd (show (0 : Int32) = (0 : Int32) from by decide) (by first | exact hc | exact not_not_intro hc))
                show own_Go p e below _ s₁ (mkF m 167 #[.val (.ref a1), .val (.int p2), .val (.int p3), .val (.int (3 : Int32)), .val (.int ((((p3 - (1 : Int32)) + (-1 : Int32)) + (-1 : Int32)) + (-1 : Int32))), .val (.int (0 : Int32))] [])
                refine own_by (fun t_ k_ => XS.iconst X0.here hx rfl (hb hby d18_167) k_) ?_
                show own_Go p e below _ s₁ (mkF m 168 #[.val (.ref a1), .val (.int p2), .val (.int p3), .val (.int (3 : Int32)), .val (.int ((((p3 - (1 : Int32)) + (-1 : Int32)) + (-1 : Int32)) + (-1 : Int32))), .val (.int (0 : Int32))] [(.int (0 : Int32))])
                refine own_by (fun t_ k_ => XS.istore X0.here hx rfl (hb hby d18_168) rfl (l' := #[.val (.ref a1), .val (.int p2), .val (.int p3), .val (.int (3 : Int32)), .val (.int ((((p3 - (1 : Int32)) + (-1 : Int32)) + (-1 : Int32)) + (-1 : Int32))), .val (.int (0 : Int32))]) rfl k_) ?_
                show own_Go p e below _ s₁ (mkF m 170 #[.val (.ref a1), .val (.int p2), .val (.int p3), .val (.int (3 : Int32)), .val (.int ((((p3 - (1 : Int32)) + (-1 : Int32)) + (-1 : Int32)) + (-1 : Int32))), .val (.int (0 : Int32))] [])
                refine own_by (fun t_ k_ => XS.iloadN X0.here hx rfl (hb hby d18_170) rfl k_) ?_
                show own_Go p e below _ s₁ (mkF m 171 #[.val (.ref a1), .val (.int p2), .val (.int p3), .val (.int (3 : Int32)), .val (.int ((((p3 - (1 : Int32)) + (-1 : Int32)) + (-1 : Int32)) + (-1 : Int32))), .val (.int (0 : Int32))] [(.int (3 : Int32))])
                refine own_retI X0 hx hlk Bd.returns (hb hby d18_171) e0 (by decide) (by decide) ?_
                exact ⟨by rw [own_bb, if_pos hp0, own_bb, if_pos hp1, own_bb, if_pos hp2, own_bb, if_neg hf]; rfl, N0, rfl⟩
              · show own_Go p e below _ s₁ (mkF m 117 #[.val (.ref a1), .val (.int p2), .val (.int p3), .val (.int (3 : Int32)), .val (.int ((((p3 - (1 : Int32)) + (-1 : Int32)) + (-1 : Int32)) + (-1 : Int32))), .val (.int (1 : Int32))] [])
                refine own_by (fun t_ k_ => XS.aloadN X0.here hx rfl (hb hby d18_117) rfl rfl k_) ?_
                show own_Go p e below _ s₁ (mkF m 118 #[.val (.ref a1), .val (.int p2), .val (.int p3), .val (.int (3 : Int32)), .val (.int ((((p3 - (1 : Int32)) + (-1 : Int32)) + (-1 : Int32)) + (-1 : Int32))), .val (.int (1 : Int32))] [(.ref a1)])
                refine own_by (fun t_ k_ => XS.iload X0.here hx rfl (hb hby d18_118) rfl k_) ?_
                show own_Go p e below _ s₁ (mkF m 120 #[.val (.ref a1), .val (.int p2), .val (.int p3), .val (.int (3 : Int32)), .val (.int ((((p3 - (1 : Int32)) + (-1 : Int32)) + (-1 : Int32)) + (-1 : Int32))), .val (.int (1 : Int32))] [(.int ((((p3 - (1 : Int32)) + (-1 : Int32)) + (-1 : Int32)) + (-1 : Int32))), (.ref a1)])
                refine own_caload X0 hx hZ e0 V_a1 (v := (.int (ds.getD ((((j - 1) - 1) - 1) - 1) 0))) ((((j - 1) - 1) - 1) - 1) (own_dec1 (own_dec1 (own_dec1 (own_sub1 hj hj0) (Nat.lt_of_le_of_lt (Nat.zero_le _) hp0.1)) (Nat.lt_of_le_of_lt (Nat.zero_le _) hp1.1)) (Nat.lt_of_le_of_lt (Nat.zero_le _) hp2.1)) (own_get (by omega)) (hb hby d18_120) ?_
                show own_Go p e below _ s₁ (mkF m 121 #[.val (.ref a1), .val (.int p2), .val (.int p3), .val (.int (3 : Int32)), .val (.int ((((p3 - (1 : Int32)) + (-1 : Int32)) + (-1 : Int32)) + (-1 : Int32))), .val (.int (1 : Int32))] [(.int (ds.getD ((((j - 1) - 1) - 1) - 1) 0))])
                refine own_by (fun t_ k_ => XS.bipush X0.here hx rfl (hb hby d18_121) k_) ?_
                show own_Go p e below _ s₁ (mkF m 123 #[.val (.ref a1), .val (.int p2), .val (.int p3), .val (.int (3 : Int32)), .val (.int ((((p3 - (1 : Int32)) + (-1 : Int32)) + (-1 : Int32)) + (-1 : Int32))), .val (.int (1 : Int32))] [(.int (92 : Int32)), (.int (ds.getD ((((j - 1) - 1) - 1) - 1) 0))])
                refine own_icmp X0 hx 135 (hb hby d18_123) (by decide) (by decide) (fun (hc123 : ¬ (ds.getD ((((j - 1) - 1) - 1) - 1) 0) = (92 : Int32)) => ?_) (fun (hc123 : (ds.getD ((((j - 1) - 1) - 1) - 1) 0) = (92 : Int32)) => ?_)
                · have hf : ¬ (on < ((((j - 1) - 1) - 1) - 1) ∧ ds.getD ((((j - 1) - 1) - 1) - 1) 0 = 92) := fun q => hc123 q.2
                  show own_Go p e below _ s₁ (mkF m 135 #[.val (.ref a1), .val (.int p2), .val (.int p3), .val (.int (3 : Int32)), .val (.int ((((p3 - (1 : Int32)) + (-1 : Int32)) + (-1 : Int32)) + (-1 : Int32))), .val (.int (1 : Int32))] [])
                  refine own_by (fun t_ k_ => XS.iconst X0.here hx rfl (hb hby d18_135) k_) ?_
                  show own_Go p e below _ s₁ (mkF m 136 #[.val (.ref a1), .val (.int p2), .val (.int p3), .val (.int (3 : Int32)), .val (.int ((((p3 - (1 : Int32)) + (-1 : Int32)) + (-1 : Int32)) + (-1 : Int32))), .val (.int (1 : Int32))] [(.int (0 : Int32))])
                  refine own_by (fun t_ k_ => XS.istore X0.here hx rfl (hb hby d18_136) rfl (l' := #[.val (.ref a1), .val (.int p2), .val (.int p3), .val (.int (3 : Int32)), .val (.int ((((p3 - (1 : Int32)) + (-1 : Int32)) + (-1 : Int32)) + (-1 : Int32))), .val (.int (0 : Int32))]) rfl k_) ?_
                  show own_Go p e below _ s₁ (mkF m 138 #[.val (.ref a1), .val (.int p2), .val (.int p3), .val (.int (3 : Int32)), .val (.int ((((p3 - (1 : Int32)) + (-1 : Int32)) + (-1 : Int32)) + (-1 : Int32))), .val (.int (0 : Int32))] [])
                  refine own_by (fun t_ k_ => XS.iload X0.here hx rfl (hb hby d18_138) rfl k_) ?_
                  show own_Go p e below _ s₁ (mkF m 140 #[.val (.ref a1), .val (.int p2), .val (.int p3), .val (.int (3 : Int32)), .val (.int ((((p3 - (1 : Int32)) + (-1 : Int32)) + (-1 : Int32)) + (-1 : Int32))), .val (.int (0 : Int32))] [(.int (0 : Int32))])
                  refine own_if X0 hx 167 (hb hby d18_140) (by decide) (by decide) (fun _ => ?_) (fun hc => absurd (show (0 : Int32) = (0 : Int32) from by decide) (by first | exact hc | exact not_not_intro hc))
                  show own_Go p e below _ s₁ (mkF m 167 #[.val (.ref a1), .val (.int p2), .val (.int p3), .val (.int (3 : Int32)), .val (.int ((((p3 - (1 : Int32)) + (-1 : Int32)) + (-1 : Int32)) + (-1 : Int32))), .val (.int (0 : Int32))] [])
                  refine own_by (fun t_ k_ => XS.iconst X0.here hx rfl (hb hby d18_167) k_) ?_
                  show own_Go p e below _ s₁ (mkF m 168 #[.val (.ref a1), .val (.int p2), .val (.int p3), .val (.int (3 : Int32)), .val (.int ((((p3 - (1 : Int32)) + (-1 : Int32)) + (-1 : Int32)) + (-1 : Int32))), .val (.int (0 : Int32))] [(.int (0 : Int32))])
                  refine own_by (fun t_ k_ => XS.istore X0.here hx rfl (hb hby d18_168) rfl (l' := #[.val (.ref a1), .val (.int p2), .val (.int p3), .val (.int (3 : Int32)), .val (.int ((((p3 - (1 : Int32)) + (-1 : Int32)) + (-1 : Int32)) + (-1 : Int32))), .val (.int (0 : Int32))]) rfl k_) ?_
                  show own_Go p e below _ s₁ (mkF m 170 #[.val (.ref a1), .val (.int p2), .val (.int p3), .val (.int (3 : Int32)), .val (.int ((((p3 - (1 : Int32)) + (-1 : Int32)) + (-1 : Int32)) + (-1 : Int32))), .val (.int (0 : Int32))] [])
                  refine own_by (fun t_ k_ => XS.iloadN X0.here hx rfl (hb hby d18_170) rfl k_) ?_
                  show own_Go p e below _ s₁ (mkF m 171 #[.val (.ref a1), .val (.int p2), .val (.int p3), .val (.int (3 : Int32)), .val (.int ((((p3 - (1 : Int32)) + (-1 : Int32)) + (-1 : Int32)) + (-1 : Int32))), .val (.int (0 : Int32))] [(.int (3 : Int32))])
                  refine own_retI X0 hx hlk Bd.returns (hb hby d18_171) e0 (by decide) (by decide) ?_
                  exact ⟨by rw [own_bb, if_pos hp0, own_bb, if_pos hp1, own_bb, if_pos hp2, own_bb, if_neg hf]; rfl, N0, rfl⟩
                · have hp3 : on < ((((j - 1) - 1) - 1) - 1) ∧ ds.getD ((((j - 1) - 1) - 1) - 1) 0 = 92 := ⟨(own_ltn hop (own_dec1 (own_dec1 (own_dec1 (own_sub1 hj hj0) (Nat.lt_of_le_of_lt (Nat.zero_le _) hp0.1)) (Nat.lt_of_le_of_lt (Nat.zero_le _) hp1.1)) (Nat.lt_of_le_of_lt (Nat.zero_le _) hp2.1))).mp hc114, by simpa using hc123⟩
                  show own_Go p e below _ s₁ (mkF m 126 #[.val (.ref a1), .val (.int p2), .val (.int p3), .val (.int (3 : Int32)), .val (.int ((((p3 - (1 : Int32)) + (-1 : Int32)) + (-1 : Int32)) + (-1 : Int32))), .val (.int (1 : Int32))] [])
                  refine own_by (fun t_ k_ => XS.iinc X0.here hx rfl (hb hby d18_126) rfl (l' := #[.val (.ref a1), .val (.int p2), .val (.int p3), .val (.int (4 : Int32)), .val (.int ((((p3 - (1 : Int32)) + (-1 : Int32)) + (-1 : Int32)) + (-1 : Int32))), .val (.int (1 : Int32))]) rfl k_) ?_
                  show own_Go p e below _ s₁ (mkF m 129 #[.val (.ref a1), .val (.int p2), .val (.int p3), .val (.int (4 : Int32)), .val (.int ((((p3 - (1 : Int32)) + (-1 : Int32)) + (-1 : Int32)) + (-1 : Int32))), .val (.int (1 : Int32))] [])
                  refine own_by (fun t_ k_ => XS.iinc X0.here hx rfl (hb hby d18_129) rfl (l' := #[.val (.ref a1), .val (.int p2), .val (.int p3), .val (.int (4 : Int32)), .val (.int (((((p3 - (1 : Int32)) + (-1 : Int32)) + (-1 : Int32)) + (-1 : Int32)) + (-1 : Int32))), .val (.int (1 : Int32))]) rfl k_) ?_
                  show own_Go p e below _ s₁ (mkF m 132 #[.val (.ref a1), .val (.int p2), .val (.int p3), .val (.int (4 : Int32)), .val (.int (((((p3 - (1 : Int32)) + (-1 : Int32)) + (-1 : Int32)) + (-1 : Int32)) + (-1 : Int32))), .val (.int (1 : Int32))] [])
                  refine own_by (fun t_ k_ => XS.goto X0.here hx rfl (pc0 := 132) (pc' := 138) rfl (hb hby d18_132) (by decide) (by decide) k_) ?_
                  show own_Go p e below _ s₁ (mkF m 138 #[.val (.ref a1), .val (.int p2), .val (.int p3), .val (.int (4 : Int32)), .val (.int (((((p3 - (1 : Int32)) + (-1 : Int32)) + (-1 : Int32)) + (-1 : Int32)) + (-1 : Int32))), .val (.int (1 : Int32))] [])
                  refine own_by (fun t_ k_ => XS.iload X0.here hx rfl (hb hby d18_138) rfl k_) ?_
                  show own_Go p e below _ s₁ (mkF m 140 #[.val (.ref a1), .val (.int p2), .val (.int p3), .val (.int (4 : Int32)), .val (.int (((((p3 - (1 : Int32)) + (-1 : Int32)) + (-1 : Int32)) + (-1 : Int32)) + (-1 : Int32))), .val (.int (1 : Int32))] [(.int (1 : Int32))])
                  refine own_if X0 hx 167 (hb hby d18_140) (by decide) (by decide) (fun hc => absurd (show ¬ (1 : Int32) = (0 : Int32) from by decide) (by first | exact hc | exact not_not_intro hc)) (fun _ => ?_)
                  show own_Go p e below _ s₁ (mkF m 143 #[.val (.ref a1), .val (.int p2), .val (.int p3), .val (.int (4 : Int32)), .val (.int (((((p3 - (1 : Int32)) + (-1 : Int32)) + (-1 : Int32)) + (-1 : Int32)) + (-1 : Int32))), .val (.int (1 : Int32))] [])
                  refine own_by (fun t_ k_ => XS.iload X0.here hx rfl (hb hby d18_143) rfl k_) ?_
                  show own_Go p e below _ s₁ (mkF m 145 #[.val (.ref a1), .val (.int p2), .val (.int p3), .val (.int (4 : Int32)), .val (.int (((((p3 - (1 : Int32)) + (-1 : Int32)) + (-1 : Int32)) + (-1 : Int32)) + (-1 : Int32))), .val (.int (1 : Int32))] [(.int (((((p3 - (1 : Int32)) + (-1 : Int32)) + (-1 : Int32)) + (-1 : Int32)) + (-1 : Int32)))])
                  refine own_by (fun t_ k_ => XS.iloadN X0.here hx rfl (hb hby d18_145) rfl k_) ?_
                  show own_Go p e below _ s₁ (mkF m 146 #[.val (.ref a1), .val (.int p2), .val (.int p3), .val (.int (4 : Int32)), .val (.int (((((p3 - (1 : Int32)) + (-1 : Int32)) + (-1 : Int32)) + (-1 : Int32)) + (-1 : Int32))), .val (.int (1 : Int32))] [(.int p2), (.int (((((p3 - (1 : Int32)) + (-1 : Int32)) + (-1 : Int32)) + (-1 : Int32)) + (-1 : Int32)))])
                  refine own_icmp X0 hx 167 (hb hby d18_146) (by decide) (by decide) (fun (hc146 : ¬ p2 < (((((p3 - (1 : Int32)) + (-1 : Int32)) + (-1 : Int32)) + (-1 : Int32)) + (-1 : Int32))) => ?_) (fun (hc146 : p2 < (((((p3 - (1 : Int32)) + (-1 : Int32)) + (-1 : Int32)) + (-1 : Int32)) + (-1 : Int32))) => ?_)
                  · have hf : ¬ (on < (((((j - 1) - 1) - 1) - 1) - 1) ∧ ds.getD (((((j - 1) - 1) - 1) - 1) - 1) 0 = 92) := fun q => hc146 ((own_ltn hop (own_dec1 (own_dec1 (own_dec1 (own_dec1 (own_sub1 hj hj0) (Nat.lt_of_le_of_lt (Nat.zero_le _) hp0.1)) (Nat.lt_of_le_of_lt (Nat.zero_le _) hp1.1)) (Nat.lt_of_le_of_lt (Nat.zero_le _) hp2.1)) (Nat.lt_of_le_of_lt (Nat.zero_le _) hp3.1))).mpr q.1)
                    show own_Go p e below _ s₁ (mkF m 167 #[.val (.ref a1), .val (.int p2), .val (.int p3), .val (.int (4 : Int32)), .val (.int (((((p3 - (1 : Int32)) + (-1 : Int32)) + (-1 : Int32)) + (-1 : Int32)) + (-1 : Int32))), .val (.int (1 : Int32))] [])
                    refine own_by (fun t_ k_ => XS.iconst X0.here hx rfl (hb hby d18_167) k_) ?_
                    show own_Go p e below _ s₁ (mkF m 168 #[.val (.ref a1), .val (.int p2), .val (.int p3), .val (.int (4 : Int32)), .val (.int (((((p3 - (1 : Int32)) + (-1 : Int32)) + (-1 : Int32)) + (-1 : Int32)) + (-1 : Int32))), .val (.int (1 : Int32))] [(.int (0 : Int32))])
                    refine own_by (fun t_ k_ => XS.istore X0.here hx rfl (hb hby d18_168) rfl (l' := #[.val (.ref a1), .val (.int p2), .val (.int p3), .val (.int (4 : Int32)), .val (.int (((((p3 - (1 : Int32)) + (-1 : Int32)) + (-1 : Int32)) + (-1 : Int32)) + (-1 : Int32))), .val (.int (0 : Int32))]) rfl k_) ?_
                    show own_Go p e below _ s₁ (mkF m 170 #[.val (.ref a1), .val (.int p2), .val (.int p3), .val (.int (4 : Int32)), .val (.int (((((p3 - (1 : Int32)) + (-1 : Int32)) + (-1 : Int32)) + (-1 : Int32)) + (-1 : Int32))), .val (.int (0 : Int32))] [])
                    refine own_by (fun t_ k_ => XS.iloadN X0.here hx rfl (hb hby d18_170) rfl k_) ?_
                    show own_Go p e below _ s₁ (mkF m 171 #[.val (.ref a1), .val (.int p2), .val (.int p3), .val (.int (4 : Int32)), .val (.int (((((p3 - (1 : Int32)) + (-1 : Int32)) + (-1 : Int32)) + (-1 : Int32)) + (-1 : Int32))), .val (.int (0 : Int32))] [(.int (4 : Int32))])
                    refine own_retI X0 hx hlk Bd.returns (hb hby d18_171) e0 (by decide) (by decide) ?_
                    exact ⟨by rw [own_bb, if_pos hp0, own_bb, if_pos hp1, own_bb, if_pos hp2, own_bb, if_pos hp3, own_bb, if_neg hf]; rfl, N0, rfl⟩
                  · show own_Go p e below _ s₁ (mkF m 149 #[.val (.ref a1), .val (.int p2), .val (.int p3), .val (.int (4 : Int32)), .val (.int (((((p3 - (1 : Int32)) + (-1 : Int32)) + (-1 : Int32)) + (-1 : Int32)) + (-1 : Int32))), .val (.int (1 : Int32))] [])
                    refine own_by (fun t_ k_ => XS.aloadN X0.here hx rfl (hb hby d18_149) rfl rfl k_) ?_
                    show own_Go p e below _ s₁ (mkF m 150 #[.val (.ref a1), .val (.int p2), .val (.int p3), .val (.int (4 : Int32)), .val (.int (((((p3 - (1 : Int32)) + (-1 : Int32)) + (-1 : Int32)) + (-1 : Int32)) + (-1 : Int32))), .val (.int (1 : Int32))] [(.ref a1)])
                    refine own_by (fun t_ k_ => XS.iload X0.here hx rfl (hb hby d18_150) rfl k_) ?_
                    show own_Go p e below _ s₁ (mkF m 152 #[.val (.ref a1), .val (.int p2), .val (.int p3), .val (.int (4 : Int32)), .val (.int (((((p3 - (1 : Int32)) + (-1 : Int32)) + (-1 : Int32)) + (-1 : Int32)) + (-1 : Int32))), .val (.int (1 : Int32))] [(.int (((((p3 - (1 : Int32)) + (-1 : Int32)) + (-1 : Int32)) + (-1 : Int32)) + (-1 : Int32))), (.ref a1)])
                    refine own_caload X0 hx hZ e0 V_a1 (v := (.int (ds.getD (((((j - 1) - 1) - 1) - 1) - 1) 0))) (((((j - 1) - 1) - 1) - 1) - 1) (own_dec1 (own_dec1 (own_dec1 (own_dec1 (own_sub1 hj hj0) (Nat.lt_of_le_of_lt (Nat.zero_le _) hp0.1)) (Nat.lt_of_le_of_lt (Nat.zero_le _) hp1.1)) (Nat.lt_of_le_of_lt (Nat.zero_le _) hp2.1)) (Nat.lt_of_le_of_lt (Nat.zero_le _) hp3.1)) (own_get (by omega)) (hb hby d18_152) ?_
                    show own_Go p e below _ s₁ (mkF m 153 #[.val (.ref a1), .val (.int p2), .val (.int p3), .val (.int (4 : Int32)), .val (.int (((((p3 - (1 : Int32)) + (-1 : Int32)) + (-1 : Int32)) + (-1 : Int32)) + (-1 : Int32))), .val (.int (1 : Int32))] [(.int (ds.getD (((((j - 1) - 1) - 1) - 1) - 1) 0))])
                    refine own_by (fun t_ k_ => XS.bipush X0.here hx rfl (hb hby d18_153) k_) ?_
                    show own_Go p e below _ s₁ (mkF m 155 #[.val (.ref a1), .val (.int p2), .val (.int p3), .val (.int (4 : Int32)), .val (.int (((((p3 - (1 : Int32)) + (-1 : Int32)) + (-1 : Int32)) + (-1 : Int32)) + (-1 : Int32))), .val (.int (1 : Int32))] [(.int (92 : Int32)), (.int (ds.getD (((((j - 1) - 1) - 1) - 1) - 1) 0))])
                    refine own_icmp X0 hx 167 (hb hby d18_155) (by decide) (by decide) (fun (hc155 : ¬ (ds.getD (((((j - 1) - 1) - 1) - 1) - 1) 0) = (92 : Int32)) => ?_) (fun (hc155 : (ds.getD (((((j - 1) - 1) - 1) - 1) - 1) 0) = (92 : Int32)) => ?_)
                    · have hf : ¬ (on < (((((j - 1) - 1) - 1) - 1) - 1) ∧ ds.getD (((((j - 1) - 1) - 1) - 1) - 1) 0 = 92) := fun q => hc155 q.2
                      show own_Go p e below _ s₁ (mkF m 167 #[.val (.ref a1), .val (.int p2), .val (.int p3), .val (.int (4 : Int32)), .val (.int (((((p3 - (1 : Int32)) + (-1 : Int32)) + (-1 : Int32)) + (-1 : Int32)) + (-1 : Int32))), .val (.int (1 : Int32))] [])
                      refine own_by (fun t_ k_ => XS.iconst X0.here hx rfl (hb hby d18_167) k_) ?_
                      show own_Go p e below _ s₁ (mkF m 168 #[.val (.ref a1), .val (.int p2), .val (.int p3), .val (.int (4 : Int32)), .val (.int (((((p3 - (1 : Int32)) + (-1 : Int32)) + (-1 : Int32)) + (-1 : Int32)) + (-1 : Int32))), .val (.int (1 : Int32))] [(.int (0 : Int32))])
                      refine own_by (fun t_ k_ => XS.istore X0.here hx rfl (hb hby d18_168) rfl (l' := #[.val (.ref a1), .val (.int p2), .val (.int p3), .val (.int (4 : Int32)), .val (.int (((((p3 - (1 : Int32)) + (-1 : Int32)) + (-1 : Int32)) + (-1 : Int32)) + (-1 : Int32))), .val (.int (0 : Int32))]) rfl k_) ?_
                      show own_Go p e below _ s₁ (mkF m 170 #[.val (.ref a1), .val (.int p2), .val (.int p3), .val (.int (4 : Int32)), .val (.int (((((p3 - (1 : Int32)) + (-1 : Int32)) + (-1 : Int32)) + (-1 : Int32)) + (-1 : Int32))), .val (.int (0 : Int32))] [])
                      refine own_by (fun t_ k_ => XS.iloadN X0.here hx rfl (hb hby d18_170) rfl k_) ?_
                      show own_Go p e below _ s₁ (mkF m 171 #[.val (.ref a1), .val (.int p2), .val (.int p3), .val (.int (4 : Int32)), .val (.int (((((p3 - (1 : Int32)) + (-1 : Int32)) + (-1 : Int32)) + (-1 : Int32)) + (-1 : Int32))), .val (.int (0 : Int32))] [(.int (4 : Int32))])
                      refine own_retI X0 hx hlk Bd.returns (hb hby d18_171) e0 (by decide) (by decide) ?_
                      exact ⟨by rw [own_bb, if_pos hp0, own_bb, if_pos hp1, own_bb, if_pos hp2, own_bb, if_pos hp3, own_bb, if_neg hf]; rfl, N0, rfl⟩
                    · have hp4 : on < (((((j - 1) - 1) - 1) - 1) - 1) ∧ ds.getD (((((j - 1) - 1) - 1) - 1) - 1) 0 = 92 := ⟨(own_ltn hop (own_dec1 (own_dec1 (own_dec1 (own_dec1 (own_sub1 hj hj0) (Nat.lt_of_le_of_lt (Nat.zero_le _) hp0.1)) (Nat.lt_of_le_of_lt (Nat.zero_le _) hp1.1)) (Nat.lt_of_le_of_lt (Nat.zero_le _) hp2.1)) (Nat.lt_of_le_of_lt (Nat.zero_le _) hp3.1))).mp hc146, by simpa using hc155⟩
                      show own_Go p e below _ s₁ (mkF m 158 #[.val (.ref a1), .val (.int p2), .val (.int p3), .val (.int (4 : Int32)), .val (.int (((((p3 - (1 : Int32)) + (-1 : Int32)) + (-1 : Int32)) + (-1 : Int32)) + (-1 : Int32))), .val (.int (1 : Int32))] [])
                      refine own_by (fun t_ k_ => XS.iinc X0.here hx rfl (hb hby d18_158) rfl (l' := #[.val (.ref a1), .val (.int p2), .val (.int p3), .val (.int (5 : Int32)), .val (.int (((((p3 - (1 : Int32)) + (-1 : Int32)) + (-1 : Int32)) + (-1 : Int32)) + (-1 : Int32))), .val (.int (1 : Int32))]) rfl k_) ?_
                      show own_Go p e below _ s₁ (mkF m 161 #[.val (.ref a1), .val (.int p2), .val (.int p3), .val (.int (5 : Int32)), .val (.int (((((p3 - (1 : Int32)) + (-1 : Int32)) + (-1 : Int32)) + (-1 : Int32)) + (-1 : Int32))), .val (.int (1 : Int32))] [])
                      refine own_by (fun t_ k_ => XS.iinc X0.here hx rfl (hb hby d18_161) rfl (l' := #[.val (.ref a1), .val (.int p2), .val (.int p3), .val (.int (5 : Int32)), .val (.int ((((((p3 - (1 : Int32)) + (-1 : Int32)) + (-1 : Int32)) + (-1 : Int32)) + (-1 : Int32)) + (-1 : Int32))), .val (.int (1 : Int32))]) rfl k_) ?_
                      show own_Go p e below _ s₁ (mkF m 164 #[.val (.ref a1), .val (.int p2), .val (.int p3), .val (.int (5 : Int32)), .val (.int ((((((p3 - (1 : Int32)) + (-1 : Int32)) + (-1 : Int32)) + (-1 : Int32)) + (-1 : Int32)) + (-1 : Int32))), .val (.int (1 : Int32))] [])
                      refine own_by (fun t_ k_ => XS.goto X0.here hx rfl (pc0 := 164) (pc' := 170) rfl (hb hby d18_164) (by decide) (by decide) k_) ?_
                      show own_Go p e below _ s₁ (mkF m 170 #[.val (.ref a1), .val (.int p2), .val (.int p3), .val (.int (5 : Int32)), .val (.int ((((((p3 - (1 : Int32)) + (-1 : Int32)) + (-1 : Int32)) + (-1 : Int32)) + (-1 : Int32)) + (-1 : Int32))), .val (.int (1 : Int32))] [])
                      refine own_by (fun t_ k_ => XS.iloadN X0.here hx rfl (hb hby d18_170) rfl k_) ?_
                      show own_Go p e below _ s₁ (mkF m 171 #[.val (.ref a1), .val (.int p2), .val (.int p3), .val (.int (5 : Int32)), .val (.int ((((((p3 - (1 : Int32)) + (-1 : Int32)) + (-1 : Int32)) + (-1 : Int32)) + (-1 : Int32)) + (-1 : Int32))), .val (.int (1 : Int32))] [(.int (5 : Int32))])
                      refine own_retI X0 hx hlk Bd.returns (hb hby d18_171) e0 (by decide) (by decide) ?_
                      exact ⟨by rw [own_bb, if_pos hp0, own_bb, if_pos hp1, own_bb, if_pos hp2, own_bb, if_pos hp3, own_bb, if_pos hp4, own_bb]; rfl, N0, rfl⟩
theorem ef_17 (m : MethodId) (a1 : Addr) (p2 : Int32) (p3 : Int32) (p4 : Int32) : entryFrame m #[(.ref a1), (.int p2), (.int p3), (.int p4)] 4 = mkF m 0 #[.val (.ref a1), .val (.int p2), .val (.int p3), .val (.int p4)] [] := by first | (simp [entryFrame, mkF, argsToLocals, Value.category]; done) | rfl
set_option maxRecDepth 65536 in
set_option maxHeartbeats 40000000 in
theorem rm17 (l : Launch) (Z : State) (a0 : Array Value) (hw : ∀ d ∈ tables_1, d.before a0 Z = true) (ws : List Jvm.Cond) (a1 : Addr) (p2 : Int32) (p3 : Int32) (p4 : Int32) (ds : List Int32) (k : Nat) (on : Nat) (j : Nat) (h0 : Heap) (n0 : Nat) (Z0 : n0 ≤ h0.size) (V_a1 : own_Arr Z h0 a1 .char (ds.map Value.int)) (hl : ds.length = 6) (hk : p2.toInt = (k : Int)) (hop : p3.toInt = (on : Int)) (hj : p4.toInt = (j : Int)) (hj6 : j < 6) :
    MetFree l (⟨"com/example/amendment_ledger/amendmentledger/ledger/TextClosingQuotePinLaw", "unescapedQuote", "([CIII)Z"⟩ : MethodName) (head1 (Jvm.Cond.code (⟨"com/example/amendment_ledger/amendmentledger/ledger/TextClosingQuotePinLaw", "unescapedQuote", "([CIII)Z"⟩ : MethodName) method_5_code 4 (some .boolean) :: ws) ({ frames := 1, cells := 0, slots := 0, locals := 17 } : Room)) (fun a U => a = #[(.ref a1), (.int p2), (.int p3), (.int p4)] ∧ Z.Warmed39 U.vm ∧ U.heap = h0) (fun _ _ _ _ _ => True) (fun _ U o U' => ∃ v L, o = .returned v ∧ QI (own_uq ds k on j) h0 n0 v U'.heap L ∧ FrameEnd U o U' L ({ frames := 1, cells := 0, slots := 0, locals := 17 } : Room).cells ({ frames := 1, cells := 0, slots := 0, locals := 17 } : Room).slots) := by
  refine MetFree.of_bodySF (plainFor_of_name pn_0) hisR ?_
  intro p e s m args below meth c s₁ Bd hml0 hP hK
  obtain ⟨rfl, hZ, hh⟩ := hP
  have hx := Bd.exec
  have hby := Bd.bytes
  have hml : c.maxLocals = 4 := hml0
  have hown : s.vm.findClass "com/example/amendment_ledger/amendmentledger/ledger/TextClosingQuotePinLaw" = some m.cls := findClass_of_methodNamed Bd.named
  have hnm := (name_of_methodNamed Bd.named Bd.method).1
  have hlk : meth.locks = false := BodyLoose.notSynchronized Bd
  have X0 : Stand p l e ({ frames := 1, cells := 0, slots := 0, locals := 17 } : Room) s m #[(.ref a1), (.int p2), (.int p3), (.int p4)] below meth c s₁ [] 0 0 := Stand.of_body Bd
  have e0 : s₁.heap = h0 := by rw [← hh, Bd.state]; rfl
  have N0 := Fr.nil n0
  refine own_start (Q := QI (own_uq ds k on j) h0 n0) (ef_17 m a1 p2 p3 p4) ?_
  show own_Go p e below _ s₁ (mkF m 0 #[.val (.ref a1), .val (.int p2), .val (.int p3), .val (.int p4)] [])
  refine own_by (fun t_ k_ => XS.iloadN X0.here hx rfl (hb hby d17_0) rfl k_) ?_
  show own_Go p e below _ s₁ (mkF m 1 #[.val (.ref a1), .val (.int p2), .val (.int p3), .val (.int p4)] [(.int p4)])
  refine own_by (fun t_ k_ => XS.iloadN X0.here hx rfl (hb hby d17_1) rfl k_) ?_
  show own_Go p e below _ s₁ (mkF m 2 #[.val (.ref a1), .val (.int p2), .val (.int p3), .val (.int p4)] [(.int p3), (.int p4)])
  refine own_icmp X0 hx 18 (hb hby d17_2) (by decide) (by decide) (fun (hc2 : ¬ p3 < p4) => ?_) (fun (hc2 : p3 < p4) => ?_)
  · show own_Go p e below _ s₁ (mkF m 18 #[.val (.ref a1), .val (.int p2), .val (.int p3), .val (.int p4)] [])
    refine own_by (fun t_ k_ => XS.iconst X0.here hx rfl (hb hby d17_18) k_) ?_
    show own_Go p e below _ s₁ (mkF m 19 #[.val (.ref a1), .val (.int p2), .val (.int p3), .val (.int p4)] [(.int (0 : Int32))])
    refine own_retZ X0 hx hlk Bd.returns (by decide) (hb hby d17_19) e0 (by decide) (by decide) ?_
    exact ⟨by rw [own_uq, if_neg (fun q => hc2 ((own_ltn hop hj).mpr q.1))], N0, rfl⟩
  · show own_Go p e below _ s₁ (mkF m 5 #[.val (.ref a1), .val (.int p2), .val (.int p3), .val (.int p4)] [])
    refine own_by (fun t_ k_ => XS.iloadN X0.here hx rfl (hb hby d17_5) rfl k_) ?_
    show own_Go p e below _ s₁ (mkF m 6 #[.val (.ref a1), .val (.int p2), .val (.int p3), .val (.int p4)] [(.int p4)])
    refine own_by (fun t_ k_ => XS.iloadN X0.here hx rfl (hb hby d17_6) rfl k_) ?_
    show own_Go p e below _ s₁ (mkF m 7 #[.val (.ref a1), .val (.int p2), .val (.int p3), .val (.int p4)] [(.int p2), (.int p4)])
    refine own_icmp X0 hx 18 (hb hby d17_7) (by decide) (by decide) (fun (hc7 : ¬ p4 < p2) => ?_) (fun (hc7 : p4 < p2) => ?_)
    · show own_Go p e below _ s₁ (mkF m 18 #[.val (.ref a1), .val (.int p2), .val (.int p3), .val (.int p4)] [])
      refine own_by (fun t_ k_ => XS.iconst X0.here hx rfl (hb hby d17_18) k_) ?_
      show own_Go p e below _ s₁ (mkF m 19 #[.val (.ref a1), .val (.int p2), .val (.int p3), .val (.int p4)] [(.int (0 : Int32))])
      refine own_retZ X0 hx hlk Bd.returns (by decide) (hb hby d17_19) e0 (by decide) (by decide) ?_
      exact ⟨by rw [own_uq, if_neg (fun q => hc7 ((own_ltn hj hk).mpr q.2.1))], N0, rfl⟩
    · show own_Go p e below _ s₁ (mkF m 10 #[.val (.ref a1), .val (.int p2), .val (.int p3), .val (.int p4)] [])
      refine own_by (fun t_ k_ => XS.aloadN X0.here hx rfl (hb hby d17_10) rfl rfl k_) ?_
      show own_Go p e below _ s₁ (mkF m 11 #[.val (.ref a1), .val (.int p2), .val (.int p3), .val (.int p4)] [(.ref a1)])
      refine own_by (fun t_ k_ => XS.iloadN X0.here hx rfl (hb hby d17_11) rfl k_) ?_
      show own_Go p e below _ s₁ (mkF m 12 #[.val (.ref a1), .val (.int p2), .val (.int p3), .val (.int p4)] [(.int p4), (.ref a1)])
      refine own_caload X0 hx hZ e0 V_a1 (v := (.int (ds.getD j 0))) j hj (own_get (by omega)) (hb hby d17_12) ?_
      show own_Go p e below _ s₁ (mkF m 13 #[.val (.ref a1), .val (.int p2), .val (.int p3), .val (.int p4)] [(.int (ds.getD j 0))])
      refine own_by (fun t_ k_ => XS.bipush X0.here hx rfl (hb hby d17_13) k_) ?_
      show own_Go p e below _ s₁ (mkF m 15 #[.val (.ref a1), .val (.int p2), .val (.int p3), .val (.int p4)] [(.int (34 : Int32)), (.int (ds.getD j 0))])
      refine own_icmp X0 hx 20 (hb hby d17_15) (by decide) (by decide) (fun (hc15 : (ds.getD j 0) = (34 : Int32)) => ?_) (fun (hc15 : ¬ (ds.getD j 0) = (34 : Int32)) => ?_)
      · show own_Go p e below _ s₁ (mkF m 20 #[.val (.ref a1), .val (.int p2), .val (.int p3), .val (.int p4)] [])
        refine own_by (fun t_ k_ => XS.aloadN X0.here hx rfl (hb hby d17_20) rfl rfl k_) ?_
        show own_Go p e below _ s₁ (mkF m 21 #[.val (.ref a1), .val (.int p2), .val (.int p3), .val (.int p4)] [(.ref a1)])
        refine own_by (fun t_ k_ => XS.iloadN X0.here hx rfl (hb hby d17_21) rfl k_) ?_
        show own_Go p e below _ s₁ (mkF m 22 #[.val (.ref a1), .val (.int p2), .val (.int p3), .val (.int p4)] [(.int p3), (.ref a1)])
        refine own_by (fun t_ k_ => XS.iloadN X0.here hx rfl (hb hby d17_22) rfl k_) ?_
        show own_Go p e below _ s₁ (mkF m 23 #[.val (.ref a1), .val (.int p2), .val (.int p3), .val (.int p4)] [(.int p4), (.int p3), (.ref a1)])
        have hjo : on < j := (own_ltn hop hj).mp hc2
        refine own_callS (W := 0) X0 hx hZ (y := (⟨"com/example/amendment_ledger/amendmentledger/ledger/TextClosingQuotePinLaw", "backslashesBefore", "([CII)I"⟩ : MethodName)) hown (own_w hw 77 rfl) (own_w hw 78 rfl) (own_w hw 3 rfl) (own_w hw 79 rfl) (by decide) (by rw [hml]; rfl) (argsL := [(.ref a1), (.int p3), (.int p4)]) pd_16 rfl (rm18 l Z a0 hw [] a1 p3 p4 ds on j h0 n0 Z0 V_a1 hl hop hj (by omega) hj6) (by decide) (by decide) (Nat.le_of_eq rfl) (by decide) (by decide) (rest := []) e0 rfl (hb hby d17_23) ?_
        intro v1 T1 L1 X1 hQ1
        obtain ⟨rfl, N1q, e1⟩ := hQ1
        have N1 := Fr.app N0 N1q
        show own_Go p e below _ T1 (mkF m 26 #[.val (.ref a1), .val (.int p2), .val (.int p3), .val (.int p4)] [(.int (Int32.ofNat (own_bb 5 ds on (j - 1))))])
        refine own_by (fun t_ k_ => XS.iconst X1.here hx rfl (hb hby d17_26) k_) ?_
        show own_Go p e below _ T1 (mkF m 27 #[.val (.ref a1), .val (.int p2), .val (.int p3), .val (.int p4)] [(.int (2 : Int32)), (.int (Int32.ofNat (own_bb 5 ds on (j - 1))))])
        refine own_by (fun t_ k_ => iremM X1 hx rfl (hb hby d17_27) rfl (by decide) k_) ?_
        show own_Go p e below _ T1 (mkF m 28 #[.val (.ref a1), .val (.int p2), .val (.int p3), .val (.int p4)] [(.int ((Int32.ofNat (own_bb 5 ds on (j - 1))) % (2 : Int32)))])
        refine own_if X1 hx 35 (hb hby d17_28) (by decide) (by decide) (fun (hc28 : ¬ ((Int32.ofNat (own_bb 5 ds on (j - 1))) % (2 : Int32)) = (0 : Int32)) => ?_) (fun (hc28 : ((Int32.ofNat (own_bb 5 ds on (j - 1))) % (2 : Int32)) = (0 : Int32)) => ?_)
        · show own_Go p e below _ T1 (mkF m 35 #[.val (.ref a1), .val (.int p2), .val (.int p3), .val (.int p4)] [])
          refine own_by (fun t_ k_ => XS.iconst X1.here hx rfl (hb hby d17_35) k_) ?_
          show own_Go p e below _ T1 (mkF m 36 #[.val (.ref a1), .val (.int p2), .val (.int p3), .val (.int p4)] [(.int (0 : Int32))])
          refine own_retZ X1 hx hlk Bd.returns (by decide) (hb hby d17_36) e1 (by decide) (by decide) ?_
          exact ⟨by rw [own_uq, if_neg (fun q => hc28 ((own_rem2 (own_bb_le _ _ _ _)).mpr q.2.2.2))], N1, rfl⟩
        · show own_Go p e below _ T1 (mkF m 31 #[.val (.ref a1), .val (.int p2), .val (.int p3), .val (.int p4)] [])
          refine own_by (fun t_ k_ => XS.iconst X1.here hx rfl (hb hby d17_31) k_) ?_
          show own_Go p e below _ T1 (mkF m 32 #[.val (.ref a1), .val (.int p2), .val (.int p3), .val (.int p4)] [(.int (1 : Int32))])
          refine own_by (fun t_ k_ => XS.goto X1.here hx rfl (pc0 := 32) (pc' := 36) rfl (hb hby d17_32) (by decide) (by decide) k_) ?_
          show own_Go p e below _ T1 (mkF m 36 #[.val (.ref a1), .val (.int p2), .val (.int p3), .val (.int p4)] [(.int (1 : Int32))])
          refine own_retZ X1 hx hlk Bd.returns (by decide) (hb hby d17_36) e1 (by decide) (by decide) ?_
          exact ⟨by rw [own_uq, if_pos ⟨hjo, (own_ltn hj hk).mp hc7, hc15, (own_rem2 (own_bb_le _ _ _ _)).mp hc28⟩], N1, rfl⟩
      · show own_Go p e below _ s₁ (mkF m 18 #[.val (.ref a1), .val (.int p2), .val (.int p3), .val (.int p4)] [])
        refine own_by (fun t_ k_ => XS.iconst X0.here hx rfl (hb hby d17_18) k_) ?_
        show own_Go p e below _ s₁ (mkF m 19 #[.val (.ref a1), .val (.int p2), .val (.int p3), .val (.int p4)] [(.int (0 : Int32))])
        refine own_retZ X0 hx hlk Bd.returns (by decide) (hb hby d17_19) e0 (by decide) (by decide) ?_
        exact ⟨by rw [own_uq, if_neg (fun q => hc15 q.2.2.1)], N0, rfl⟩
theorem ef_9 (m : MethodId) (a1 : Addr) (p2 : Int32) : entryFrame m #[(.ref a1), (.int p2)] 4 = mkF m 0 #[.val (.ref a1), .val (.int p2), .unset, .unset] [] := by first | (simp [entryFrame, mkF, argsToLocals, Value.category]; done) | rfl
set_option maxRecDepth 65536 in
set_option maxHeartbeats 40000000 in
theorem rm9 (l : Launch) (Z : State) (a0 : Array Value) (hw : ∀ d ∈ tables_1, d.before a0 Z = true) (ws : List Jvm.Cond) (a1 : Addr) (p2 : Int32) (t1 : Addr) (kb : ClassId) (ds : List Int32) (on : Nat) (cs : Int32) (fm : Value) (h0 : Heap) (n0 : Nat) (Z0 : n0 ≤ h0.size) (HS : own_Str Z h0 a1 t1 kb ds) (hok : ∀ c ∈ ds, own_Ok c) (hl : ds.length ≤ 6) (hop : p2.toInt = (on : Int)) (hon : on < 6) (S_cs : Sta Z h0 "java/lang/String" "COMPACT_STRINGS" "Z" (.int cs)) (hcs : ¬ cs = 0) (S_fm : Sta Z h0 "jdk/internal/util/Preconditions" "SIOOBE_FORMATTER" "Ljava/util/function/BiFunction;" fm) (hfm : fm.isRef = true) :
    MetFree l (⟨"com/example/amendment_ledger/amendmentledger/ledger/Value$Text", "closingQuote", "(Ljava/lang/String;I)I"⟩ : MethodName) (head1 (Jvm.Cond.code (⟨"com/example/amendment_ledger/amendmentledger/ledger/Value$Text", "closingQuote", "(Ljava/lang/String;I)I"⟩ : MethodName) prog_58_method_4_code 4 (some .int) :: ws) ({ frames := 4, cells := 0, slots := 0, locals := 60 } : Room)) (fun a U => a = #[(.ref a1), (.int p2)] ∧ Z.Warmed39 U.vm ∧ U.heap = h0) (fun _ _ _ _ _ => True) (fun _ U o U' => ∃ v L, o = .returned v ∧ QI (own_cq 8 ds (on + 1)) h0 n0 v U'.heap L ∧ FrameEnd U o U' L ({ frames := 4, cells := 0, slots := 0, locals := 60 } : Room).cells ({ frames := 4, cells := 0, slots := 0, locals := 60 } : Room).slots) := by
  refine MetFree.of_bodySF (plainFor_of_name pn_9) hisR ?_
  intro p e s m args below meth c s₁ Bd hml0 hP hK
  obtain ⟨rfl, hZ, hh⟩ := hP
  have hx := Bd.exec
  have hby := Bd.bytes
  have hml : c.maxLocals = 4 := hml0
  have hown : s.vm.findClass "com/example/amendment_ledger/amendmentledger/ledger/Value$Text" = some m.cls := findClass_of_methodNamed Bd.named
  have hnm := (name_of_methodNamed Bd.named Bd.method).1
  have hlk : meth.locks = false := BodyLoose.notSynchronized Bd
  have X0 : Stand p l e ({ frames := 4, cells := 0, slots := 0, locals := 60 } : Room) s m #[(.ref a1), (.int p2)] below meth c s₁ [] 0 0 := Stand.of_body Bd
  have e0 : s₁.heap = h0 := by rw [← hh, Bd.state]; rfl
  have N0 := Fr.nil n0
  refine own_start (Q := QI (own_cq 8 ds (on + 1)) h0 n0) (ef_9 m a1 p2) ?_
  obtain ⟨E_s, C_s, W_s, A_s⟩ := HS
  have hlw : ∀ d ∈ StrChars.Road.wordsLen, d.before a0 Z = true := fun d hd => hw d ((by decide +kernel : ∀ d ∈ StrChars.Road.wordsLen, d ∈ tables_1) d hd)
  have hch : ∀ d ∈ StrChars.Road.wordsChN, d.before a0 Z = true := fun d hd => hw d ((by decide +kernel : ∀ d ∈ StrChars.Road.wordsChN, d ∈ tables_1) d hd)
  have hcd : StrChars.Road.CodA ds 0 (Int32.ofNat ds.length) ((ds.map (fun c => c.toInt8.toInt32)).map Value.int) := StrChars.Road.codOf rfl (fun x hx => (hok x hx).2)
  have hlen : (Int32.ofNat ds.length).toInt = (ds.length : Int) := Int32.toInt_ofNat_of_lt (by omega)
  have lp : ∀ (f : Nat) (T : State) (locs : List Loc) (cells slots : Nat) (ii : Int32) (i : Nat) (sl : Slot), Stand p l e ({ frames := 4, cells := 0, slots := 0, locals := 60 } : Room) s m #[(.ref a1), (.int p2)] below meth c T locs cells slots → cells ≤ 0 → slots ≤ 0 → T.heap = h0 → Fr n0 locs → ii.toInt = (i : Int) → i ≤ 8 → (sl = .unset ∨ ∃ z, sl = .val (.int z)) → ds.length < i + f + 1 → own_cq (f + 1) ds i = own_cq 8 ds (on + 1) → own_Go p e below (own_Fin s (QI (own_cq 8 ds (on + 1)) h0 n0) ({ frames := 4, cells := 0, slots := 0, locals := 60 } : Room).cells ({ frames := 4, cells := 0, slots := 0, locals := 60 } : Room).slots) T (mkF m 4 #[.val (.ref a1), .val (.int p2), .val (.int ii), sl] []) := by
    intro f
    induction f with
    | zero =>
      intro T locs cells slots ii i sl X hck hsk eT N hii hi8 hsl hf hq
      have hin : ¬ i < ds.length := by omega
      show own_Go p e below _ T (mkF m 4 #[.val (.ref a1), .val (.int p2), .val (.int ii), sl] [])
      refine own_by (fun t_ k_ => XS.iloadN X.here hx rfl (hb hby d9_4) rfl k_) ?_
      show own_Go p e below _ T (mkF m 5 #[.val (.ref a1), .val (.int p2), .val (.int ii), sl] [(.int ii)])
      refine own_by (fun t_ k_ => XS.aloadN X.here hx rfl (hb hby d9_5) rfl rfl k_) ?_
      show own_Go p e below _ T (mkF m 6 #[.val (.ref a1), .val (.int p2), .val (.int ii), sl] [(.ref a1), (.int ii)])
      refine own_callVB (W := 1) (Qc := fun v h L => v = some (.int (Int32.ofNat ds.length)) ∧ L = [] ∧ h = h0) X hx hZ (y := (⟨"java/lang/String", "length", "()I"⟩ : MethodName)) (z := (⟨"java/lang/String", "length", "()I"⟩ : MethodName)) (kc := 0) (ks := 0) hown (own_w hw 42 rfl) (own_w hw 43 rfl) (notFace_of_selects (args := #[]) (mvT hZ (own_w hw 45 rfl))) (own_w hw 45 rfl) (own_w hw 44 rfl) (by decide) (by rw [hml]; rfl) (argsL := []) pd_9 rfl (a := a1) eT E_s (StrChars.Road.lenW (R := ({ frames := 4, cells := 0, slots := 0, locals := 60 } : Room)) (W := 1) hZ hlw (kI := 4) (own_w hw 10 rfl) E_s W_s C_s A_s hcd (own_up hok) S_cs hcs (by omega) (by decide) (by decide)) (Nat.le_of_eq rfl) hck hsk (rest := [(.int ii)]) rfl (hb hby d9_6) ?_
      intro v1 T1 L1 X1 hQ1
      obtain ⟨rfl, rfl, e1⟩ := hQ1
      have N1 := Fr.app N (Fr.nil n0)
      show own_Go p e below _ T1 (mkF m 9 #[.val (.ref a1), .val (.int p2), .val (.int ii), sl] [(.int (Int32.ofNat ds.length)), (.int ii)])
      refine own_icmp X1 hx 44 (hb hby d9_9) (by decide) (by decide) (fun _ => ?_) (fun hc => absurd (show ¬ ii < (Int32.ofNat ds.length) from by rw [own_ltn hii hlen]; omega) (by first | exact hc | exact not_not_intro hc))
      show own_Go p e below _ T1 (mkF m 44 #[.val (.ref a1), .val (.int p2), .val (.int ii), sl] [])
      refine own_by (fun t_ k_ => XS.iconst X1.here hx rfl (hb hby d9_44) k_) ?_
      show own_Go p e below _ T1 (mkF m 45 #[.val (.ref a1), .val (.int p2), .val (.int ii), sl] [(.int (-1 : Int32))])
      refine own_retI X1 hx hlk Bd.returns (hb hby d9_45) e1 (by omega) (by omega) ?_
      exact ⟨by rw [← hq, own_cq, if_neg hin], N1, rfl⟩
    | succ f ih =>
      intro T locs cells slots ii i sl X hck hsk eT N hii hi8 hsl hf hq
      by_cases hin : i < ds.length
      · rcases hsl with rfl | ⟨zz, rfl⟩
        · skip
          show own_Go p e below _ T (mkF m 4 #[.val (.ref a1), .val (.int p2), .val (.int ii), .unset] [])
          refine own_by (fun t_ k_ => XS.iloadN X.here hx rfl (hb hby d9_4) rfl k_) ?_
          show own_Go p e below _ T (mkF m 5 #[.val (.ref a1), .val (.int p2), .val (.int ii), .unset] [(.int ii)])
          refine own_by (fun t_ k_ => XS.aloadN X.here hx rfl (hb hby d9_5) rfl rfl k_) ?_
          show own_Go p e below _ T (mkF m 6 #[.val (.ref a1), .val (.int p2), .val (.int ii), .unset] [(.ref a1), (.int ii)])
          refine own_callVB (W := 1) (Qc := fun v h L => v = some (.int (Int32.ofNat ds.length)) ∧ L = [] ∧ h = h0) X hx hZ (y := (⟨"java/lang/String", "length", "()I"⟩ : MethodName)) (z := (⟨"java/lang/String", "length", "()I"⟩ : MethodName)) (kc := 0) (ks := 0) hown (own_w hw 42 rfl) (own_w hw 43 rfl) (notFace_of_selects (args := #[]) (mvT hZ (own_w hw 45 rfl))) (own_w hw 45 rfl) (own_w hw 44 rfl) (by decide) (by rw [hml]; rfl) (argsL := []) pd_9 rfl (a := a1) eT E_s (StrChars.Road.lenW (R := ({ frames := 4, cells := 0, slots := 0, locals := 60 } : Room)) (W := 1) hZ hlw (kI := 4) (own_w hw 10 rfl) E_s W_s C_s A_s hcd (own_up hok) S_cs hcs (by omega) (by decide) (by decide)) (Nat.le_of_eq rfl) hck hsk (rest := [(.int ii)]) rfl (hb hby d9_6) ?_
          intro v1 T1 L1 X1 hQ1
          obtain ⟨rfl, rfl, e1⟩ := hQ1
          have N1 := Fr.app N (Fr.nil n0)
          show own_Go p e below _ T1 (mkF m 9 #[.val (.ref a1), .val (.int p2), .val (.int ii), .unset] [(.int (Int32.ofNat ds.length)), (.int ii)])
          refine own_icmp X1 hx 44 (hb hby d9_9) (by decide) (by decide) (fun hc => absurd (show ii < (Int32.ofNat ds.length) from (own_ltn hii hlen).mpr hin) (by first | exact hc | exact not_not_intro hc)) (fun _ => ?_)
          show own_Go p e below _ T1 (mkF m 12 #[.val (.ref a1), .val (.int p2), .val (.int ii), .unset] [])
          refine own_by (fun t_ k_ => XS.aloadN X1.here hx rfl (hb hby d9_12) rfl rfl k_) ?_
          show own_Go p e below _ T1 (mkF m 13 #[.val (.ref a1), .val (.int p2), .val (.int ii), .unset] [(.ref a1)])
          refine own_by (fun t_ k_ => XS.iloadN X1.here hx rfl (hb hby d9_13) rfl k_) ?_
          show own_Go p e below _ T1 (mkF m 14 #[.val (.ref a1), .val (.int p2), .val (.int ii), .unset] [(.int ii), (.ref a1)])
          refine own_callVB (W := 0) (Qc := fun v h L => v = some (.int (ds.getD i 0)) ∧ L = [] ∧ h = h0) X1 hx hZ (y := (⟨"java/lang/String", "charAt", "(I)C"⟩ : MethodName)) (z := (⟨"java/lang/String", "charAt", "(I)C"⟩ : MethodName)) (kc := 0) (ks := 0) hown (own_w hw 52 rfl) (own_w hw 53 rfl) (notFace_of_selects (args := #[]) (mvT hZ (own_w hw 55 rfl))) (own_w hw 55 rfl) (own_w hw 54 rfl) (by decide) (by rw [hml]; rfl) (argsL := [(.int ii)]) pd_0 rfl (a := a1) e1 E_s (StrChars.Road.chN (R := ({ frames := 4, cells := 0, slots := 0, locals := 60 } : Room)) (W := 0) hZ hch (kI := 4) (own_w hw 10 rfl) E_s W_s C_s A_s hcd (own_up hok) S_cs hcs S_fm hfm (by omega) (i := i) hin (own_ofN hii) (by decide) (by decide)) (Nat.le_of_eq rfl) hck hsk (rest := []) rfl (hb hby d9_14) ?_
          intro v2 T2 L2 X2 hQ2
          obtain ⟨rfl, rfl, e2⟩ := hQ2
          have N2 := Fr.app N1 (Fr.nil n0)
          show own_Go p e below _ T2 (mkF m 17 #[.val (.ref a1), .val (.int p2), .val (.int ii), .unset] [(.int (ds.getD i 0))])
          refine own_by (fun t_ k_ => XS.istoreN X2.here hx rfl (hb hby d9_17) rfl (l' := #[.val (.ref a1), .val (.int p2), .val (.int ii), .val (.int (ds.getD i 0))]) rfl k_) ?_
          show own_Go p e below _ T2 (mkF m 18 #[.val (.ref a1), .val (.int p2), .val (.int ii), .val (.int (ds.getD i 0))] [])
          refine own_by (fun t_ k_ => XS.iloadN X2.here hx rfl (hb hby d9_18) rfl k_) ?_
          show own_Go p e below _ T2 (mkF m 19 #[.val (.ref a1), .val (.int p2), .val (.int ii), .val (.int (ds.getD i 0))] [(.int (ds.getD i 0))])
          refine own_by (fun t_ k_ => XS.bipush X2.here hx rfl (hb hby d9_19) k_) ?_
          show own_Go p e below _ T2 (mkF m 21 #[.val (.ref a1), .val (.int p2), .val (.int ii), .val (.int (ds.getD i 0))] [(.int (92 : Int32)), (.int (ds.getD i 0))])
          refine own_icmp X2 hx 30 (hb hby d9_21) (by decide) (by decide) (fun (hc21 : ¬ (ds.getD i 0) = (92 : Int32)) => ?_) (fun (hc21 : (ds.getD i 0) = (92 : Int32)) => ?_)
          · show own_Go p e below _ T2 (mkF m 30 #[.val (.ref a1), .val (.int p2), .val (.int ii), .val (.int (ds.getD i 0))] [])
            refine own_by (fun t_ k_ => XS.iloadN X2.here hx rfl (hb hby d9_30) rfl k_) ?_
            show own_Go p e below _ T2 (mkF m 31 #[.val (.ref a1), .val (.int p2), .val (.int ii), .val (.int (ds.getD i 0))] [(.int (ds.getD i 0))])
            refine own_by (fun t_ k_ => XS.bipush X2.here hx rfl (hb hby d9_31) k_) ?_
            show own_Go p e below _ T2 (mkF m 33 #[.val (.ref a1), .val (.int p2), .val (.int ii), .val (.int (ds.getD i 0))] [(.int (34 : Int32)), (.int (ds.getD i 0))])
            refine own_icmp X2 hx 38 (hb hby d9_33) (by decide) (by decide) (fun (hc33 : ¬ (ds.getD i 0) = (34 : Int32)) => ?_) (fun (hc33 : (ds.getD i 0) = (34 : Int32)) => ?_)
            · show own_Go p e below _ T2 (mkF m 38 #[.val (.ref a1), .val (.int p2), .val (.int ii), .val (.int (ds.getD i 0))] [])
              refine own_by (fun t_ k_ => XS.iinc X2.here hx rfl (hb hby d9_38) rfl (l' := #[.val (.ref a1), .val (.int p2), .val (.int (ii + (1 : Int32))), .val (.int (ds.getD i 0))]) rfl k_) ?_
              show own_Go p e below _ T2 (mkF m 41 #[.val (.ref a1), .val (.int p2), .val (.int (ii + (1 : Int32))), .val (.int (ds.getD i 0))] [])
              refine own_by (fun t_ k_ => XS.goto X2.here hx rfl (pc0 := 41) (pc' := 4) rfl (hb hby d9_41) (by decide) (by decide) k_) ?_
              exact ih _ _ _ _ _ (i + 1) _ X2 (by omega) (by omega) e2 N2 (own_inc hii (by omega)) (by omega) (Or.inr ⟨_, rfl⟩) (by omega) (by rw [← hq]; conv => rhs; rw [own_cq, if_pos hin, if_neg hc21, if_neg hc33])
            · show own_Go p e below _ T2 (mkF m 36 #[.val (.ref a1), .val (.int p2), .val (.int ii), .val (.int (ds.getD i 0))] [])
              refine own_by (fun t_ k_ => XS.iloadN X2.here hx rfl (hb hby d9_36) rfl k_) ?_
              show own_Go p e below _ T2 (mkF m 37 #[.val (.ref a1), .val (.int p2), .val (.int ii), .val (.int (ds.getD i 0))] [(.int ii)])
              refine own_retI X2 hx hlk Bd.returns (hb hby d9_37) e2 (by omega) (by omega) ?_
              exact ⟨by rw [← hq, own_cq, if_pos hin, if_neg hc21, if_pos hc33, own_ofN hii], N2, rfl⟩
          · show own_Go p e below _ T2 (mkF m 24 #[.val (.ref a1), .val (.int p2), .val (.int ii), .val (.int (ds.getD i 0))] [])
            refine own_by (fun t_ k_ => XS.iinc X2.here hx rfl (hb hby d9_24) rfl (l' := #[.val (.ref a1), .val (.int p2), .val (.int (ii + (1 : Int32))), .val (.int (ds.getD i 0))]) rfl k_) ?_
            show own_Go p e below _ T2 (mkF m 27 #[.val (.ref a1), .val (.int p2), .val (.int (ii + (1 : Int32))), .val (.int (ds.getD i 0))] [])
            refine own_by (fun t_ k_ => XS.goto X2.here hx rfl (pc0 := 27) (pc' := 38) rfl (hb hby d9_27) (by decide) (by decide) k_) ?_
            show own_Go p e below _ T2 (mkF m 38 #[.val (.ref a1), .val (.int p2), .val (.int (ii + (1 : Int32))), .val (.int (ds.getD i 0))] [])
            refine own_by (fun t_ k_ => XS.iinc X2.here hx rfl (hb hby d9_38) rfl (l' := #[.val (.ref a1), .val (.int p2), .val (.int ((ii + (1 : Int32)) + (1 : Int32))), .val (.int (ds.getD i 0))]) rfl k_) ?_
            show own_Go p e below _ T2 (mkF m 41 #[.val (.ref a1), .val (.int p2), .val (.int ((ii + (1 : Int32)) + (1 : Int32))), .val (.int (ds.getD i 0))] [])
            refine own_by (fun t_ k_ => XS.goto X2.here hx rfl (pc0 := 41) (pc' := 4) rfl (hb hby d9_41) (by decide) (by decide) k_) ?_
            exact ih _ _ _ _ _ (i + 1 + 1) _ X2 (by omega) (by omega) e2 N2 (own_inc (own_inc hii (by omega)) (by omega)) (by omega) (Or.inr ⟨_, rfl⟩) (by omega) (by rw [← hq]; conv => rhs; rw [own_cq, if_pos hin, if_pos hc21])
        · skip
          show own_Go p e below _ T (mkF m 4 #[.val (.ref a1), .val (.int p2), .val (.int ii), .val (.int zz)] [])
          refine own_by (fun t_ k_ => XS.iloadN X.here hx rfl (hb hby d9_4) rfl k_) ?_
          show own_Go p e below _ T (mkF m 5 #[.val (.ref a1), .val (.int p2), .val (.int ii), .val (.int zz)] [(.int ii)])
          refine own_by (fun t_ k_ => XS.aloadN X.here hx rfl (hb hby d9_5) rfl rfl k_) ?_
          show own_Go p e below _ T (mkF m 6 #[.val (.ref a1), .val (.int p2), .val (.int ii), .val (.int zz)] [(.ref a1), (.int ii)])
          refine own_callVB (W := 1) (Qc := fun v h L => v = some (.int (Int32.ofNat ds.length)) ∧ L = [] ∧ h = h0) X hx hZ (y := (⟨"java/lang/String", "length", "()I"⟩ : MethodName)) (z := (⟨"java/lang/String", "length", "()I"⟩ : MethodName)) (kc := 0) (ks := 0) hown (own_w hw 42 rfl) (own_w hw 43 rfl) (notFace_of_selects (args := #[]) (mvT hZ (own_w hw 45 rfl))) (own_w hw 45 rfl) (own_w hw 44 rfl) (by decide) (by rw [hml]; rfl) (argsL := []) pd_9 rfl (a := a1) eT E_s (StrChars.Road.lenW (R := ({ frames := 4, cells := 0, slots := 0, locals := 60 } : Room)) (W := 1) hZ hlw (kI := 4) (own_w hw 10 rfl) E_s W_s C_s A_s hcd (own_up hok) S_cs hcs (by omega) (by decide) (by decide)) (Nat.le_of_eq rfl) hck hsk (rest := [(.int ii)]) rfl (hb hby d9_6) ?_
          intro v1 T1 L1 X1 hQ1
          obtain ⟨rfl, rfl, e1⟩ := hQ1
          have N1 := Fr.app N (Fr.nil n0)
          show own_Go p e below _ T1 (mkF m 9 #[.val (.ref a1), .val (.int p2), .val (.int ii), .val (.int zz)] [(.int (Int32.ofNat ds.length)), (.int ii)])
          refine own_icmp X1 hx 44 (hb hby d9_9) (by decide) (by decide) (fun hc => absurd (show ii < (Int32.ofNat ds.length) from (own_ltn hii hlen).mpr hin) (by first | exact hc | exact not_not_intro hc)) (fun _ => ?_)
          show own_Go p e below _ T1 (mkF m 12 #[.val (.ref a1), .val (.int p2), .val (.int ii), .val (.int zz)] [])
          refine own_by (fun t_ k_ => XS.aloadN X1.here hx rfl (hb hby d9_12) rfl rfl k_) ?_
          show own_Go p e below _ T1 (mkF m 13 #[.val (.ref a1), .val (.int p2), .val (.int ii), .val (.int zz)] [(.ref a1)])
          refine own_by (fun t_ k_ => XS.iloadN X1.here hx rfl (hb hby d9_13) rfl k_) ?_
          show own_Go p e below _ T1 (mkF m 14 #[.val (.ref a1), .val (.int p2), .val (.int ii), .val (.int zz)] [(.int ii), (.ref a1)])
          refine own_callVB (W := 0) (Qc := fun v h L => v = some (.int (ds.getD i 0)) ∧ L = [] ∧ h = h0) X1 hx hZ (y := (⟨"java/lang/String", "charAt", "(I)C"⟩ : MethodName)) (z := (⟨"java/lang/String", "charAt", "(I)C"⟩ : MethodName)) (kc := 0) (ks := 0) hown (own_w hw 52 rfl) (own_w hw 53 rfl) (notFace_of_selects (args := #[]) (mvT hZ (own_w hw 55 rfl))) (own_w hw 55 rfl) (own_w hw 54 rfl) (by decide) (by rw [hml]; rfl) (argsL := [(.int ii)]) pd_0 rfl (a := a1) e1 E_s (StrChars.Road.chN (R := ({ frames := 4, cells := 0, slots := 0, locals := 60 } : Room)) (W := 0) hZ hch (kI := 4) (own_w hw 10 rfl) E_s W_s C_s A_s hcd (own_up hok) S_cs hcs S_fm hfm (by omega) (i := i) hin (own_ofN hii) (by decide) (by decide)) (Nat.le_of_eq rfl) hck hsk (rest := []) rfl (hb hby d9_14) ?_
          intro v2 T2 L2 X2 hQ2
          obtain ⟨rfl, rfl, e2⟩ := hQ2
          have N2 := Fr.app N1 (Fr.nil n0)
          show own_Go p e below _ T2 (mkF m 17 #[.val (.ref a1), .val (.int p2), .val (.int ii), .val (.int zz)] [(.int (ds.getD i 0))])
          refine own_by (fun t_ k_ => XS.istoreN X2.here hx rfl (hb hby d9_17) rfl (l' := #[.val (.ref a1), .val (.int p2), .val (.int ii), .val (.int (ds.getD i 0))]) rfl k_) ?_
          show own_Go p e below _ T2 (mkF m 18 #[.val (.ref a1), .val (.int p2), .val (.int ii), .val (.int (ds.getD i 0))] [])
          refine own_by (fun t_ k_ => XS.iloadN X2.here hx rfl (hb hby d9_18) rfl k_) ?_
          show own_Go p e below _ T2 (mkF m 19 #[.val (.ref a1), .val (.int p2), .val (.int ii), .val (.int (ds.getD i 0))] [(.int (ds.getD i 0))])
          refine own_by (fun t_ k_ => XS.bipush X2.here hx rfl (hb hby d9_19) k_) ?_
          show own_Go p e below _ T2 (mkF m 21 #[.val (.ref a1), .val (.int p2), .val (.int ii), .val (.int (ds.getD i 0))] [(.int (92 : Int32)), (.int (ds.getD i 0))])
          refine own_icmp X2 hx 30 (hb hby d9_21) (by decide) (by decide) (fun (hc21 : ¬ (ds.getD i 0) = (92 : Int32)) => ?_) (fun (hc21 : (ds.getD i 0) = (92 : Int32)) => ?_)
          · show own_Go p e below _ T2 (mkF m 30 #[.val (.ref a1), .val (.int p2), .val (.int ii), .val (.int (ds.getD i 0))] [])
            refine own_by (fun t_ k_ => XS.iloadN X2.here hx rfl (hb hby d9_30) rfl k_) ?_
            show own_Go p e below _ T2 (mkF m 31 #[.val (.ref a1), .val (.int p2), .val (.int ii), .val (.int (ds.getD i 0))] [(.int (ds.getD i 0))])
            refine own_by (fun t_ k_ => XS.bipush X2.here hx rfl (hb hby d9_31) k_) ?_
            show own_Go p e below _ T2 (mkF m 33 #[.val (.ref a1), .val (.int p2), .val (.int ii), .val (.int (ds.getD i 0))] [(.int (34 : Int32)), (.int (ds.getD i 0))])
            refine own_icmp X2 hx 38 (hb hby d9_33) (by decide) (by decide) (fun (hc33 : ¬ (ds.getD i 0) = (34 : Int32)) => ?_) (fun (hc33 : (ds.getD i 0) = (34 : Int32)) => ?_)
            · show own_Go p e below _ T2 (mkF m 38 #[.val (.ref a1), .val (.int p2), .val (.int ii), .val (.int (ds.getD i 0))] [])
              refine own_by (fun t_ k_ => XS.iinc X2.here hx rfl (hb hby d9_38) rfl (l' := #[.val (.ref a1), .val (.int p2), .val (.int (ii + (1 : Int32))), .val (.int (ds.getD i 0))]) rfl k_) ?_
              show own_Go p e below _ T2 (mkF m 41 #[.val (.ref a1), .val (.int p2), .val (.int (ii + (1 : Int32))), .val (.int (ds.getD i 0))] [])
              refine own_by (fun t_ k_ => XS.goto X2.here hx rfl (pc0 := 41) (pc' := 4) rfl (hb hby d9_41) (by decide) (by decide) k_) ?_
              exact ih _ _ _ _ _ (i + 1) _ X2 (by omega) (by omega) e2 N2 (own_inc hii (by omega)) (by omega) (Or.inr ⟨_, rfl⟩) (by omega) (by rw [← hq]; conv => rhs; rw [own_cq, if_pos hin, if_neg hc21, if_neg hc33])
            · show own_Go p e below _ T2 (mkF m 36 #[.val (.ref a1), .val (.int p2), .val (.int ii), .val (.int (ds.getD i 0))] [])
              refine own_by (fun t_ k_ => XS.iloadN X2.here hx rfl (hb hby d9_36) rfl k_) ?_
              show own_Go p e below _ T2 (mkF m 37 #[.val (.ref a1), .val (.int p2), .val (.int ii), .val (.int (ds.getD i 0))] [(.int ii)])
              refine own_retI X2 hx hlk Bd.returns (hb hby d9_37) e2 (by omega) (by omega) ?_
              exact ⟨by rw [← hq, own_cq, if_pos hin, if_neg hc21, if_pos hc33, own_ofN hii], N2, rfl⟩
          · show own_Go p e below _ T2 (mkF m 24 #[.val (.ref a1), .val (.int p2), .val (.int ii), .val (.int (ds.getD i 0))] [])
            refine own_by (fun t_ k_ => XS.iinc X2.here hx rfl (hb hby d9_24) rfl (l' := #[.val (.ref a1), .val (.int p2), .val (.int (ii + (1 : Int32))), .val (.int (ds.getD i 0))]) rfl k_) ?_
            show own_Go p e below _ T2 (mkF m 27 #[.val (.ref a1), .val (.int p2), .val (.int (ii + (1 : Int32))), .val (.int (ds.getD i 0))] [])
            refine own_by (fun t_ k_ => XS.goto X2.here hx rfl (pc0 := 27) (pc' := 38) rfl (hb hby d9_27) (by decide) (by decide) k_) ?_
            show own_Go p e below _ T2 (mkF m 38 #[.val (.ref a1), .val (.int p2), .val (.int (ii + (1 : Int32))), .val (.int (ds.getD i 0))] [])
            refine own_by (fun t_ k_ => XS.iinc X2.here hx rfl (hb hby d9_38) rfl (l' := #[.val (.ref a1), .val (.int p2), .val (.int ((ii + (1 : Int32)) + (1 : Int32))), .val (.int (ds.getD i 0))]) rfl k_) ?_
            show own_Go p e below _ T2 (mkF m 41 #[.val (.ref a1), .val (.int p2), .val (.int ((ii + (1 : Int32)) + (1 : Int32))), .val (.int (ds.getD i 0))] [])
            refine own_by (fun t_ k_ => XS.goto X2.here hx rfl (pc0 := 41) (pc' := 4) rfl (hb hby d9_41) (by decide) (by decide) k_) ?_
            exact ih _ _ _ _ _ (i + 1 + 1) _ X2 (by omega) (by omega) e2 N2 (own_inc (own_inc hii (by omega)) (by omega)) (by omega) (Or.inr ⟨_, rfl⟩) (by omega) (by rw [← hq]; conv => rhs; rw [own_cq, if_pos hin, if_pos hc21])
      · skip
        show own_Go p e below _ T (mkF m 4 #[.val (.ref a1), .val (.int p2), .val (.int ii), sl] [])
        refine own_by (fun t_ k_ => XS.iloadN X.here hx rfl (hb hby d9_4) rfl k_) ?_
        show own_Go p e below _ T (mkF m 5 #[.val (.ref a1), .val (.int p2), .val (.int ii), sl] [(.int ii)])
        refine own_by (fun t_ k_ => XS.aloadN X.here hx rfl (hb hby d9_5) rfl rfl k_) ?_
        show own_Go p e below _ T (mkF m 6 #[.val (.ref a1), .val (.int p2), .val (.int ii), sl] [(.ref a1), (.int ii)])
        refine own_callVB (W := 1) (Qc := fun v h L => v = some (.int (Int32.ofNat ds.length)) ∧ L = [] ∧ h = h0) X hx hZ (y := (⟨"java/lang/String", "length", "()I"⟩ : MethodName)) (z := (⟨"java/lang/String", "length", "()I"⟩ : MethodName)) (kc := 0) (ks := 0) hown (own_w hw 42 rfl) (own_w hw 43 rfl) (notFace_of_selects (args := #[]) (mvT hZ (own_w hw 45 rfl))) (own_w hw 45 rfl) (own_w hw 44 rfl) (by decide) (by rw [hml]; rfl) (argsL := []) pd_9 rfl (a := a1) eT E_s (StrChars.Road.lenW (R := ({ frames := 4, cells := 0, slots := 0, locals := 60 } : Room)) (W := 1) hZ hlw (kI := 4) (own_w hw 10 rfl) E_s W_s C_s A_s hcd (own_up hok) S_cs hcs (by omega) (by decide) (by decide)) (Nat.le_of_eq rfl) hck hsk (rest := [(.int ii)]) rfl (hb hby d9_6) ?_
        intro v1 T1 L1 X1 hQ1
        obtain ⟨rfl, rfl, e1⟩ := hQ1
        have N1 := Fr.app N (Fr.nil n0)
        show own_Go p e below _ T1 (mkF m 9 #[.val (.ref a1), .val (.int p2), .val (.int ii), sl] [(.int (Int32.ofNat ds.length)), (.int ii)])
        refine own_icmp X1 hx 44 (hb hby d9_9) (by decide) (by decide) (fun _ => ?_) (fun hc => absurd (show ¬ ii < (Int32.ofNat ds.length) from fun q => hin ((own_ltn hii hlen).mp q)) (by first | exact hc | exact not_not_intro hc))
        show own_Go p e below _ T1 (mkF m 44 #[.val (.ref a1), .val (.int p2), .val (.int ii), sl] [])
        refine own_by (fun t_ k_ => XS.iconst X1.here hx rfl (hb hby d9_44) k_) ?_
        show own_Go p e below _ T1 (mkF m 45 #[.val (.ref a1), .val (.int p2), .val (.int ii), sl] [(.int (-1 : Int32))])
        refine own_retI X1 hx hlk Bd.returns (hb hby d9_45) e1 (by omega) (by omega) ?_
        exact ⟨by rw [← hq, own_cq, if_neg hin], N1, rfl⟩
  show own_Go p e below _ s₁ (mkF m 0 #[.val (.ref a1), .val (.int p2), .unset, .unset] [])
  refine own_by (fun t_ k_ => XS.iloadN X0.here hx rfl (hb hby d9_0) rfl k_) ?_
  show own_Go p e below _ s₁ (mkF m 1 #[.val (.ref a1), .val (.int p2), .unset, .unset] [(.int p2)])
  refine own_by (fun t_ k_ => XS.iconst X0.here hx rfl (hb hby d9_1) k_) ?_
  show own_Go p e below _ s₁ (mkF m 2 #[.val (.ref a1), .val (.int p2), .unset, .unset] [(.int (1 : Int32)), (.int p2)])
  refine own_by (fun t_ k_ => XS.iadd X0.here hx rfl (hb hby d9_2) rfl k_) ?_
  show own_Go p e below _ s₁ (mkF m 3 #[.val (.ref a1), .val (.int p2), .unset, .unset] [(.int (p2 + (1 : Int32)))])
  refine own_by (fun t_ k_ => XS.istoreN X0.here hx rfl (hb hby d9_3) rfl (l' := #[.val (.ref a1), .val (.int p2), .val (.int (p2 + (1 : Int32))), .unset]) rfl k_) ?_
  exact lp 7 _ _ _ _ _ (on + 1) _ X0 (by decide) (by decide) e0 N0 (own_inc hop (by omega)) (by omega) (Or.inl rfl) (by omega) rfl
theorem ef_0 (m : MethodId) (p1 : Int32) (p2 : Int32) (p3 : Int32) (p4 : Int32) : entryFrame m #[(.int p1), (.int p2), (.int p3), (.int p4)] maxLocals = mkF m 0 #[.val (.int p1), .val (.int p2), .val (.int p3), .val (.int p4), .unset, .unset, .unset, .unset, .unset, .unset] [] := by first | (simp [entryFrame, mkF, argsToLocals, Value.category, maxLocals]; done) | rfl
set_option maxRecDepth 65536 in
set_option maxHeartbeats 40000000 in
theorem rm0 (l : Launch) (Z : State) (a0 : Array Value) (hw : ∀ d ∈ tables_1, d.before a0 Z = true) (ws : List Jvm.Cond) (p1 : Int32) (p2 : Int32) (p3 : Int32) (p4 : Int32) (cs : Int32) (fm : Value) (h0 : Heap) (n0 : Nat) (Z0 : n0 ≤ h0.size) (S_cs : Sta Z h0 "java/lang/String" "COMPACT_STRINGS" "Z" (.int cs)) (hcs : ¬ cs = 0) (S_fm : Sta Z h0 "jdk/internal/util/Preconditions" "SIOOBE_FORMATTER" "Ljava/util/function/BiFunction;" fm) (hfm : fm.isRef = true) :
    MetFree l x (head1 (Jvm.Cond.code x code maxLocals ret :: ws) room_1) (fun a U => a = #[(.int p1), (.int p2), (.int p3), (.int p4)] ∧ Z.Warmed39 U.vm ∧ U.heap = h0) (fun _ _ _ _ _ => True) (fun _ U o U' => ∃ v L, o = .returned v ∧ Q0 n0 v U'.heap L ∧ FrameEnd U o U' L room_1.cells room_1.slots) := by
  refine MetFree.of_bodySF (plainFor_of_name pn_0) hisR ?_
  intro p e s m args below meth c s₁ Bd hml0 hP hK
  obtain ⟨rfl, hZ, hh⟩ := hP
  have hx := Bd.exec
  have hby := Bd.bytes
  have hml : c.maxLocals = 10 := hml0
  have hown : s.vm.findClass "com/example/amendment_ledger/amendmentledger/ledger/TextClosingQuotePinLaw" = some m.cls := findClass_of_methodNamed Bd.named
  have hnm := (name_of_methodNamed Bd.named Bd.method).1
  have hlk : meth.locks = false := BodyLoose.notSynchronized Bd
  have X0 : Stand p l e room_1 s m #[(.int p1), (.int p2), (.int p3), (.int p4)] below meth c s₁ [] 0 0 := Stand.of_body Bd
  have e0 : s₁.heap = h0 := by rw [← hh, Bd.state]; rfl
  have N0 := Fr.nil n0
  refine own_start (Q := Q0 n0) (ef_0 m p1 p2 p3 p4) ?_
  show own_Go p e below _ s₁ (mkF m 0 #[.val (.int p1), .val (.int p2), .val (.int p3), .val (.int p4), .unset, .unset, .unset, .unset, .unset, .unset] [])
  refine own_by (fun t_ k_ => XS.bipush X0.here hx rfl (hb hby at_0) k_) ?_
  show own_Go p e below _ s₁ (mkF m 2 #[.val (.int p1), .val (.int p2), .val (.int p3), .val (.int p4), .unset, .unset, .unset, .unset, .unset, .unset] [(.int (6 : Int32))])
  refine own_newP X0 hx hZ (own_w hw 0 rfl) e0 (hb hby at_2) 6 6 (by decide) (by decide) (by decide) (by decide) (by decide) ?_
  intro T1 h1 b1 X1 e1 g1 E1 A1
  have g_b1 : n0 ≤ b1 := Nat.le_trans Z0 (Nat.le_of_eq g1.symm)
  have sz1 : n0 ≤ h1.size := Nat.le_trans Z0 E1.1
  have V1_0 : own_Arr Z h1 b1 .char [(.int (0 : Int32)), (.int (0 : Int32)), (.int (0 : Int32)), (.int (0 : Int32)), (.int (0 : Int32)), (.int (0 : Int32))] := A1
  show own_Go p e below _ T1 (mkF m 4 #[.val (.int p1), .val (.int p2), .val (.int p3), .val (.int p4), .unset, .unset, .unset, .unset, .unset, .unset] [(.ref b1)])
  refine own_by (fun t_ k_ => XS.astore X1.here hx rfl (hb hby at_4) rfl rfl (l' := #[.val (.int p1), .val (.int p2), .val (.int p3), .val (.int p4), .val (.ref b1), .unset, .unset, .unset, .unset, .unset]) rfl k_) ?_
  show own_Go p e below _ T1 (mkF m 6 #[.val (.int p1), .val (.int p2), .val (.int p3), .val (.int p4), .val (.ref b1), .unset, .unset, .unset, .unset, .unset] [])
  refine own_by (fun t_ k_ => XS.aload X1.here hx rfl (hb hby at_6) rfl rfl k_) ?_
  show own_Go p e below _ T1 (mkF m 8 #[.val (.int p1), .val (.int p2), .val (.int p3), .val (.int p4), .val (.ref b1), .unset, .unset, .unset, .unset, .unset] [(.ref b1)])
  refine own_by (fun t_ k_ => XS.iconst X1.here hx rfl (hb hby at_8) k_) ?_
  show own_Go p e below _ T1 (mkF m 9 #[.val (.int p1), .val (.int p2), .val (.int p3), .val (.int p4), .val (.ref b1), .unset, .unset, .unset, .unset, .unset] [(.int (0 : Int32)), (.ref b1)])
  refine own_by (fun t_ k_ => XS.iloadN X1.here hx rfl (hb hby at_9) rfl k_) ?_
  show own_Go p e below _ T1 (mkF m 10 #[.val (.int p1), .val (.int p2), .val (.int p3), .val (.int p4), .val (.ref b1), .unset, .unset, .unset, .unset, .unset] [(.int p1), (.int (0 : Int32)), (.ref b1)])
  refine own_callS (W := 2) X1 hx hZ (y := (⟨"com/example/amendment_ledger/amendmentledger/ledger/TextClosingQuotePinLaw", "dec", "(I)C"⟩ : MethodName)) hown (own_w hw 1 rfl) (own_w hw 2 rfl) (own_w hw 3 rfl) (own_w hw 4 rfl) (by decide) (by rw [hml]; rfl) (argsL := [(.int p1)]) pd_0 rfl (rm1 l Z a0 hw [] p1 h1 n0 sz1) (by decide) (by decide) (Nat.le_of_eq rfl) (by decide) (by decide) (rest := [(.int (0 : Int32)), (.ref b1)]) e1 rfl (hb hby at_10) ?_
  intro v2 T2 L2 X2 hQ2
  obtain ⟨c2, rfl, hb2, N2q, e2⟩ := hQ2
  have N2 := Fr.app N0 N2q
  show own_Go p e below _ T2 (mkF m 13 #[.val (.int p1), .val (.int p2), .val (.int p3), .val (.int p4), .val (.ref b1), .unset, .unset, .unset, .unset, .unset] [(.int c2), (.int (0 : Int32)), (.ref b1)])
  refine own_castoreN X2 hx hZ e2 V1_0 (own_nar hb2) 0 (by decide) (Nat.le_of_ble_eq_true rfl) (hb hby at_13) ?_
  intro T3 h3 X3 e3 W3 A3
  have V3_0 : own_Arr Z h3 b1 .char [(.int c2), (.int (0 : Int32)), (.int (0 : Int32)), (.int (0 : Int32)), (.int (0 : Int32)), (.int (0 : Int32))] := A3
  have N3 := Fr.snoc X3 N2 g_b1
  have sz3 : n0 ≤ h3.size := Nat.le_trans sz1 (Keep.of_wr W3).1
  show own_Go p e below _ T3 (mkF m 14 #[.val (.int p1), .val (.int p2), .val (.int p3), .val (.int p4), .val (.ref b1), .unset, .unset, .unset, .unset, .unset] [])
  refine own_by (fun t_ k_ => XS.aload X3.here hx rfl (hb hby at_14) rfl rfl k_) ?_
  show own_Go p e below _ T3 (mkF m 16 #[.val (.int p1), .val (.int p2), .val (.int p3), .val (.int p4), .val (.ref b1), .unset, .unset, .unset, .unset, .unset] [(.ref b1)])
  refine own_by (fun t_ k_ => XS.iconst X3.here hx rfl (hb hby at_16) k_) ?_
  show own_Go p e below _ T3 (mkF m 17 #[.val (.int p1), .val (.int p2), .val (.int p3), .val (.int p4), .val (.ref b1), .unset, .unset, .unset, .unset, .unset] [(.int (1 : Int32)), (.ref b1)])
  refine own_by (fun t_ k_ => XS.iloadN X3.here hx rfl (hb hby at_17) rfl k_) ?_
  show own_Go p e below _ T3 (mkF m 18 #[.val (.int p1), .val (.int p2), .val (.int p3), .val (.int p4), .val (.ref b1), .unset, .unset, .unset, .unset, .unset] [(.int p1), (.int (1 : Int32)), (.ref b1)])
  refine own_by (fun t_ k_ => XS.bipush X3.here hx rfl (hb hby at_18) k_) ?_
  show own_Go p e below _ T3 (mkF m 20 #[.val (.int p1), .val (.int p2), .val (.int p3), .val (.int p4), .val (.ref b1), .unset, .unset, .unset, .unset, .unset] [(.int (10 : Int32)), (.int p1), (.int (1 : Int32)), (.ref b1)])
  refine own_by (fun t_ k_ => XT.iushr X3.here hx rfl (hb hby at_20) rfl k_) ?_
  show own_Go p e below _ T3 (mkF m 21 #[.val (.int p1), .val (.int p2), .val (.int p3), .val (.int p4), .val (.ref b1), .unset, .unset, .unset, .unset, .unset] [(.int (XT.ushr p1 (10 : Int32))), (.int (1 : Int32)), (.ref b1)])
  refine own_callS (W := 2) X3 hx hZ (y := (⟨"com/example/amendment_ledger/amendmentledger/ledger/TextClosingQuotePinLaw", "dec", "(I)C"⟩ : MethodName)) hown (own_w hw 1 rfl) (own_w hw 2 rfl) (own_w hw 3 rfl) (own_w hw 4 rfl) (by decide) (by rw [hml]; rfl) (argsL := [(.int (XT.ushr p1 (10 : Int32)))]) pd_0 rfl (rm1 l Z a0 hw [] (XT.ushr p1 (10 : Int32)) h3 n0 sz3) (by decide) (by decide) (Nat.le_of_eq rfl) (by decide) (by decide) (rest := [(.int (1 : Int32)), (.ref b1)]) e3 rfl (hb hby at_21) ?_
  intro v4 T4 L4 X4 hQ4
  obtain ⟨c4, rfl, hb4, N4q, e4⟩ := hQ4
  have N4 := Fr.app N3 N4q
  show own_Go p e below _ T4 (mkF m 24 #[.val (.int p1), .val (.int p2), .val (.int p3), .val (.int p4), .val (.ref b1), .unset, .unset, .unset, .unset, .unset] [(.int c4), (.int (1 : Int32)), (.ref b1)])
  refine own_castoreN X4 hx hZ e4 V3_0 (own_nar hb4) 1 (by decide) (Nat.le_of_ble_eq_true rfl) (hb hby at_24) ?_
  intro T5 h5 X5 e5 W5 A5
  have V5_0 : own_Arr Z h5 b1 .char [(.int c2), (.int c4), (.int (0 : Int32)), (.int (0 : Int32)), (.int (0 : Int32)), (.int (0 : Int32))] := A5
  have N5 := Fr.snoc X5 N4 g_b1
  have sz5 : n0 ≤ h5.size := Nat.le_trans sz3 (Keep.of_wr W5).1
  show own_Go p e below _ T5 (mkF m 25 #[.val (.int p1), .val (.int p2), .val (.int p3), .val (.int p4), .val (.ref b1), .unset, .unset, .unset, .unset, .unset] [])
  refine own_by (fun t_ k_ => XS.aload X5.here hx rfl (hb hby at_25) rfl rfl k_) ?_
  show own_Go p e below _ T5 (mkF m 27 #[.val (.int p1), .val (.int p2), .val (.int p3), .val (.int p4), .val (.ref b1), .unset, .unset, .unset, .unset, .unset] [(.ref b1)])
  refine own_by (fun t_ k_ => XS.iconst X5.here hx rfl (hb hby at_27) k_) ?_
  show own_Go p e below _ T5 (mkF m 28 #[.val (.int p1), .val (.int p2), .val (.int p3), .val (.int p4), .val (.ref b1), .unset, .unset, .unset, .unset, .unset] [(.int (2 : Int32)), (.ref b1)])
  refine own_by (fun t_ k_ => XS.iloadN X5.here hx rfl (hb hby at_28) rfl k_) ?_
  show own_Go p e below _ T5 (mkF m 29 #[.val (.int p1), .val (.int p2), .val (.int p3), .val (.int p4), .val (.ref b1), .unset, .unset, .unset, .unset, .unset] [(.int p1), (.int (2 : Int32)), (.ref b1)])
  refine own_by (fun t_ k_ => XS.bipush X5.here hx rfl (hb hby at_29) k_) ?_
  show own_Go p e below _ T5 (mkF m 31 #[.val (.int p1), .val (.int p2), .val (.int p3), .val (.int p4), .val (.ref b1), .unset, .unset, .unset, .unset, .unset] [(.int (20 : Int32)), (.int p1), (.int (2 : Int32)), (.ref b1)])
  refine own_by (fun t_ k_ => XT.iushr X5.here hx rfl (hb hby at_31) rfl k_) ?_
  show own_Go p e below _ T5 (mkF m 32 #[.val (.int p1), .val (.int p2), .val (.int p3), .val (.int p4), .val (.ref b1), .unset, .unset, .unset, .unset, .unset] [(.int (XT.ushr p1 (20 : Int32))), (.int (2 : Int32)), (.ref b1)])
  refine own_callS (W := 2) X5 hx hZ (y := (⟨"com/example/amendment_ledger/amendmentledger/ledger/TextClosingQuotePinLaw", "dec", "(I)C"⟩ : MethodName)) hown (own_w hw 1 rfl) (own_w hw 2 rfl) (own_w hw 3 rfl) (own_w hw 4 rfl) (by decide) (by rw [hml]; rfl) (argsL := [(.int (XT.ushr p1 (20 : Int32)))]) pd_0 rfl (rm1 l Z a0 hw [] (XT.ushr p1 (20 : Int32)) h5 n0 sz5) (by decide) (by decide) (Nat.le_of_eq rfl) (by decide) (by decide) (rest := [(.int (2 : Int32)), (.ref b1)]) e5 rfl (hb hby at_32) ?_
  intro v6 T6 L6 X6 hQ6
  obtain ⟨c6, rfl, hb6, N6q, e6⟩ := hQ6
  have N6 := Fr.app N5 N6q
  show own_Go p e below _ T6 (mkF m 35 #[.val (.int p1), .val (.int p2), .val (.int p3), .val (.int p4), .val (.ref b1), .unset, .unset, .unset, .unset, .unset] [(.int c6), (.int (2 : Int32)), (.ref b1)])
  refine own_castoreN X6 hx hZ e6 V5_0 (own_nar hb6) 2 (by decide) (Nat.le_of_ble_eq_true rfl) (hb hby at_35) ?_
  intro T7 h7 X7 e7 W7 A7
  have V7_0 : own_Arr Z h7 b1 .char [(.int c2), (.int c4), (.int c6), (.int (0 : Int32)), (.int (0 : Int32)), (.int (0 : Int32))] := A7
  have N7 := Fr.snoc X7 N6 g_b1
  have sz7 : n0 ≤ h7.size := Nat.le_trans sz5 (Keep.of_wr W7).1
  show own_Go p e below _ T7 (mkF m 36 #[.val (.int p1), .val (.int p2), .val (.int p3), .val (.int p4), .val (.ref b1), .unset, .unset, .unset, .unset, .unset] [])
  refine own_by (fun t_ k_ => XS.aload X7.here hx rfl (hb hby at_36) rfl rfl k_) ?_
  show own_Go p e below _ T7 (mkF m 38 #[.val (.int p1), .val (.int p2), .val (.int p3), .val (.int p4), .val (.ref b1), .unset, .unset, .unset, .unset, .unset] [(.ref b1)])
  refine own_by (fun t_ k_ => XS.iconst X7.here hx rfl (hb hby at_38) k_) ?_
  show own_Go p e below _ T7 (mkF m 39 #[.val (.int p1), .val (.int p2), .val (.int p3), .val (.int p4), .val (.ref b1), .unset, .unset, .unset, .unset, .unset] [(.int (3 : Int32)), (.ref b1)])
  refine own_by (fun t_ k_ => XS.iloadN X7.here hx rfl (hb hby at_39) rfl k_) ?_
  show own_Go p e below _ T7 (mkF m 40 #[.val (.int p1), .val (.int p2), .val (.int p3), .val (.int p4), .val (.ref b1), .unset, .unset, .unset, .unset, .unset] [(.int p2), (.int (3 : Int32)), (.ref b1)])
  refine own_callS (W := 2) X7 hx hZ (y := (⟨"com/example/amendment_ledger/amendmentledger/ledger/TextClosingQuotePinLaw", "dec", "(I)C"⟩ : MethodName)) hown (own_w hw 1 rfl) (own_w hw 2 rfl) (own_w hw 3 rfl) (own_w hw 4 rfl) (by decide) (by rw [hml]; rfl) (argsL := [(.int p2)]) pd_0 rfl (rm1 l Z a0 hw [] p2 h7 n0 sz7) (by decide) (by decide) (Nat.le_of_eq rfl) (by decide) (by decide) (rest := [(.int (3 : Int32)), (.ref b1)]) e7 rfl (hb hby at_40) ?_
  intro v8 T8 L8 X8 hQ8
  obtain ⟨c8, rfl, hb8, N8q, e8⟩ := hQ8
  have N8 := Fr.app N7 N8q
  show own_Go p e below _ T8 (mkF m 43 #[.val (.int p1), .val (.int p2), .val (.int p3), .val (.int p4), .val (.ref b1), .unset, .unset, .unset, .unset, .unset] [(.int c8), (.int (3 : Int32)), (.ref b1)])
  refine own_castoreN X8 hx hZ e8 V7_0 (own_nar hb8) 3 (by decide) (Nat.le_of_ble_eq_true rfl) (hb hby at_43) ?_
  intro T9 h9 X9 e9 W9 A9
  have V9_0 : own_Arr Z h9 b1 .char [(.int c2), (.int c4), (.int c6), (.int c8), (.int (0 : Int32)), (.int (0 : Int32))] := A9
  have N9 := Fr.snoc X9 N8 g_b1
  have sz9 : n0 ≤ h9.size := Nat.le_trans sz7 (Keep.of_wr W9).1
  show own_Go p e below _ T9 (mkF m 44 #[.val (.int p1), .val (.int p2), .val (.int p3), .val (.int p4), .val (.ref b1), .unset, .unset, .unset, .unset, .unset] [])
  refine own_by (fun t_ k_ => XS.aload X9.here hx rfl (hb hby at_44) rfl rfl k_) ?_
  show own_Go p e below _ T9 (mkF m 46 #[.val (.int p1), .val (.int p2), .val (.int p3), .val (.int p4), .val (.ref b1), .unset, .unset, .unset, .unset, .unset] [(.ref b1)])
  refine own_by (fun t_ k_ => XS.iconst X9.here hx rfl (hb hby at_46) k_) ?_
  show own_Go p e below _ T9 (mkF m 47 #[.val (.int p1), .val (.int p2), .val (.int p3), .val (.int p4), .val (.ref b1), .unset, .unset, .unset, .unset, .unset] [(.int (4 : Int32)), (.ref b1)])
  refine own_by (fun t_ k_ => XS.iloadN X9.here hx rfl (hb hby at_47) rfl k_) ?_
  show own_Go p e below _ T9 (mkF m 48 #[.val (.int p1), .val (.int p2), .val (.int p3), .val (.int p4), .val (.ref b1), .unset, .unset, .unset, .unset, .unset] [(.int p2), (.int (4 : Int32)), (.ref b1)])
  refine own_by (fun t_ k_ => XS.bipush X9.here hx rfl (hb hby at_48) k_) ?_
  show own_Go p e below _ T9 (mkF m 50 #[.val (.int p1), .val (.int p2), .val (.int p3), .val (.int p4), .val (.ref b1), .unset, .unset, .unset, .unset, .unset] [(.int (10 : Int32)), (.int p2), (.int (4 : Int32)), (.ref b1)])
  refine own_by (fun t_ k_ => XT.iushr X9.here hx rfl (hb hby at_50) rfl k_) ?_
  show own_Go p e below _ T9 (mkF m 51 #[.val (.int p1), .val (.int p2), .val (.int p3), .val (.int p4), .val (.ref b1), .unset, .unset, .unset, .unset, .unset] [(.int (XT.ushr p2 (10 : Int32))), (.int (4 : Int32)), (.ref b1)])
  refine own_callS (W := 2) X9 hx hZ (y := (⟨"com/example/amendment_ledger/amendmentledger/ledger/TextClosingQuotePinLaw", "dec", "(I)C"⟩ : MethodName)) hown (own_w hw 1 rfl) (own_w hw 2 rfl) (own_w hw 3 rfl) (own_w hw 4 rfl) (by decide) (by rw [hml]; rfl) (argsL := [(.int (XT.ushr p2 (10 : Int32)))]) pd_0 rfl (rm1 l Z a0 hw [] (XT.ushr p2 (10 : Int32)) h9 n0 sz9) (by decide) (by decide) (Nat.le_of_eq rfl) (by decide) (by decide) (rest := [(.int (4 : Int32)), (.ref b1)]) e9 rfl (hb hby at_51) ?_
  intro v10 T10 L10 X10 hQ10
  obtain ⟨c10, rfl, hb10, N10q, e10⟩ := hQ10
  have N10 := Fr.app N9 N10q
  show own_Go p e below _ T10 (mkF m 54 #[.val (.int p1), .val (.int p2), .val (.int p3), .val (.int p4), .val (.ref b1), .unset, .unset, .unset, .unset, .unset] [(.int c10), (.int (4 : Int32)), (.ref b1)])
  refine own_castoreN X10 hx hZ e10 V9_0 (own_nar hb10) 4 (by decide) (Nat.le_of_ble_eq_true rfl) (hb hby at_54) ?_
  intro T11 h11 X11 e11 W11 A11
  have V11_0 : own_Arr Z h11 b1 .char [(.int c2), (.int c4), (.int c6), (.int c8), (.int c10), (.int (0 : Int32))] := A11
  have N11 := Fr.snoc X11 N10 g_b1
  have sz11 : n0 ≤ h11.size := Nat.le_trans sz9 (Keep.of_wr W11).1
  show own_Go p e below _ T11 (mkF m 55 #[.val (.int p1), .val (.int p2), .val (.int p3), .val (.int p4), .val (.ref b1), .unset, .unset, .unset, .unset, .unset] [])
  refine own_by (fun t_ k_ => XS.aload X11.here hx rfl (hb hby at_55) rfl rfl k_) ?_
  show own_Go p e below _ T11 (mkF m 57 #[.val (.int p1), .val (.int p2), .val (.int p3), .val (.int p4), .val (.ref b1), .unset, .unset, .unset, .unset, .unset] [(.ref b1)])
  refine own_by (fun t_ k_ => XS.iconst X11.here hx rfl (hb hby at_57) k_) ?_
  show own_Go p e below _ T11 (mkF m 58 #[.val (.int p1), .val (.int p2), .val (.int p3), .val (.int p4), .val (.ref b1), .unset, .unset, .unset, .unset, .unset] [(.int (5 : Int32)), (.ref b1)])
  refine own_by (fun t_ k_ => XS.iloadN X11.here hx rfl (hb hby at_58) rfl k_) ?_
  show own_Go p e below _ T11 (mkF m 59 #[.val (.int p1), .val (.int p2), .val (.int p3), .val (.int p4), .val (.ref b1), .unset, .unset, .unset, .unset, .unset] [(.int p2), (.int (5 : Int32)), (.ref b1)])
  refine own_by (fun t_ k_ => XS.bipush X11.here hx rfl (hb hby at_59) k_) ?_
  show own_Go p e below _ T11 (mkF m 61 #[.val (.int p1), .val (.int p2), .val (.int p3), .val (.int p4), .val (.ref b1), .unset, .unset, .unset, .unset, .unset] [(.int (20 : Int32)), (.int p2), (.int (5 : Int32)), (.ref b1)])
  refine own_by (fun t_ k_ => XT.iushr X11.here hx rfl (hb hby at_61) rfl k_) ?_
  show own_Go p e below _ T11 (mkF m 62 #[.val (.int p1), .val (.int p2), .val (.int p3), .val (.int p4), .val (.ref b1), .unset, .unset, .unset, .unset, .unset] [(.int (XT.ushr p2 (20 : Int32))), (.int (5 : Int32)), (.ref b1)])
  refine own_callS (W := 2) X11 hx hZ (y := (⟨"com/example/amendment_ledger/amendmentledger/ledger/TextClosingQuotePinLaw", "dec", "(I)C"⟩ : MethodName)) hown (own_w hw 1 rfl) (own_w hw 2 rfl) (own_w hw 3 rfl) (own_w hw 4 rfl) (by decide) (by rw [hml]; rfl) (argsL := [(.int (XT.ushr p2 (20 : Int32)))]) pd_0 rfl (rm1 l Z a0 hw [] (XT.ushr p2 (20 : Int32)) h11 n0 sz11) (by decide) (by decide) (Nat.le_of_eq rfl) (by decide) (by decide) (rest := [(.int (5 : Int32)), (.ref b1)]) e11 rfl (hb hby at_62) ?_
  intro v12 T12 L12 X12 hQ12
  obtain ⟨c12, rfl, hb12, N12q, e12⟩ := hQ12
  have N12 := Fr.app N11 N12q
  show own_Go p e below _ T12 (mkF m 65 #[.val (.int p1), .val (.int p2), .val (.int p3), .val (.int p4), .val (.ref b1), .unset, .unset, .unset, .unset, .unset] [(.int c12), (.int (5 : Int32)), (.ref b1)])
  refine own_castoreN X12 hx hZ e12 V11_0 (own_nar hb12) 5 (by decide) (Nat.le_of_ble_eq_true rfl) (hb hby at_65) ?_
  intro T13 h13 X13 e13 W13 A13
  have V13_0 : own_Arr Z h13 b1 .char [(.int c2), (.int c4), (.int c6), (.int c8), (.int c10), (.int c12)] := A13
  have N13 := Fr.snoc X13 N12 g_b1
  have sz13 : n0 ≤ h13.size := Nat.le_trans sz11 (Keep.of_wr W13).1
  show own_Go p e below _ T13 (mkF m 66 #[.val (.int p1), .val (.int p2), .val (.int p3), .val (.int p4), .val (.ref b1), .unset, .unset, .unset, .unset, .unset] [])
  refine own_by (fun t_ k_ => XS.iconst X13.here hx rfl (hb hby at_66) k_) ?_
  show own_Go p e below _ T13 (mkF m 67 #[.val (.int p1), .val (.int p2), .val (.int p3), .val (.int p4), .val (.ref b1), .unset, .unset, .unset, .unset, .unset] [(.int (1 : Int32))])
  refine own_by (fun t_ k_ => XS.iloadN X13.here hx rfl (hb hby at_67) rfl k_) ?_
  show own_Go p e below _ T13 (mkF m 68 #[.val (.int p1), .val (.int p2), .val (.int p3), .val (.int p4), .val (.ref b1), .unset, .unset, .unset, .unset, .unset] [(.int p3), (.int (1 : Int32))])
  refine own_by (fun t_ k_ => X13.ldcInt hx hown (mvT hZ (own_w hw 5 rfl)) (g := (mkF m 68 #[.val (.int p1), .val (.int p2), .val (.int p3), .val (.int p4), .val (.ref b1), .unset, .unset, .unset, .unset, .unset] [(.int p3), (.int (1 : Int32))])) rfl (hb hby at_68) _ k_) ?_
  show own_Go p e below _ T13 (mkF m 70 #[.val (.int p1), .val (.int p2), .val (.int p3), .val (.int p4), .val (.ref b1), .unset, .unset, .unset, .unset, .unset] [(.int (2147483647 : Int32)), (.int p3), (.int (1 : Int32))])
  refine own_by (fun t_ k_ => XS.iand X13.here hx rfl (hb hby at_70) rfl k_) ?_
  show own_Go p e below _ T13 (mkF m 71 #[.val (.int p1), .val (.int p2), .val (.int p3), .val (.int p4), .val (.ref b1), .unset, .unset, .unset, .unset, .unset] [(.int (p3 &&& (2147483647 : Int32))), (.int (1 : Int32))])
  refine own_by (fun t_ k_ => XS.bipush X13.here hx rfl (hb hby at_71) k_) ?_
  show own_Go p e below _ T13 (mkF m 73 #[.val (.int p1), .val (.int p2), .val (.int p3), .val (.int p4), .val (.ref b1), .unset, .unset, .unset, .unset, .unset] [(.int (6 : Int32)), (.int (p3 &&& (2147483647 : Int32))), (.int (1 : Int32))])
  refine own_by (fun t_ k_ => iremM X13 hx rfl (hb hby at_73) rfl (by decide) k_) ?_
  show own_Go p e below _ T13 (mkF m 74 #[.val (.int p1), .val (.int p2), .val (.int p3), .val (.int p4), .val (.ref b1), .unset, .unset, .unset, .unset, .unset] [(.int ((p3 &&& (2147483647 : Int32)) % (6 : Int32))), (.int (1 : Int32))])
  refine own_by (fun t_ k_ => XS.iadd X13.here hx rfl (hb hby at_74) rfl k_) ?_
  show own_Go p e below _ T13 (mkF m 75 #[.val (.int p1), .val (.int p2), .val (.int p3), .val (.int p4), .val (.ref b1), .unset, .unset, .unset, .unset, .unset] [(.int ((1 : Int32) + ((p3 &&& (2147483647 : Int32)) % (6 : Int32))))])
  refine own_by (fun t_ k_ => XS.istore X13.here hx rfl (hb hby at_75) rfl (l' := #[.val (.int p1), .val (.int p2), .val (.int p3), .val (.int p4), .val (.ref b1), .val (.int ((1 : Int32) + ((p3 &&& (2147483647 : Int32)) % (6 : Int32)))), .unset, .unset, .unset, .unset]) rfl k_) ?_
  show own_Go p e below _ T13 (mkF m 77 #[.val (.int p1), .val (.int p2), .val (.int p3), .val (.int p4), .val (.ref b1), .val (.int ((1 : Int32) + ((p3 &&& (2147483647 : Int32)) % (6 : Int32)))), .unset, .unset, .unset, .unset] [])
  generalize h_nv : ((1 : Int32) + ((p3 &&& (2147483647 : Int32)) % (6 : Int32))) = nv
  obtain ⟨k, hk1, hk6, hk⟩ : ∃ k : Nat, 1 ≤ k ∧ k ≤ 6 ∧ nv.toInt = (k : Int) := h_nv ▸ own_n6 p3
  show own_Go p e below _ T13 (mkF m 77 #[.val (.int p1), .val (.int p2), .val (.int p3), .val (.int p4), .val (.ref b1), .val (.int nv), .unset, .unset, .unset, .unset] [])
  refine own_by (fun t_ k_ => XS.iloadN X13.here hx rfl (hb hby at_77) rfl k_) ?_
  show own_Go p e below _ T13 (mkF m 78 #[.val (.int p1), .val (.int p2), .val (.int p3), .val (.int p4), .val (.ref b1), .val (.int nv), .unset, .unset, .unset, .unset] [(.int p4)])
  refine own_by (fun t_ k_ => X13.ldcInt hx hown (mvT hZ (own_w hw 5 rfl)) (g := (mkF m 78 #[.val (.int p1), .val (.int p2), .val (.int p3), .val (.int p4), .val (.ref b1), .val (.int nv), .unset, .unset, .unset, .unset] [(.int p4)])) rfl (hb hby at_78) _ k_) ?_
  show own_Go p e below _ T13 (mkF m 80 #[.val (.int p1), .val (.int p2), .val (.int p3), .val (.int p4), .val (.ref b1), .val (.int nv), .unset, .unset, .unset, .unset] [(.int (2147483647 : Int32)), (.int p4)])
  refine own_by (fun t_ k_ => XS.iand X13.here hx rfl (hb hby at_80) rfl k_) ?_
  show own_Go p e below _ T13 (mkF m 81 #[.val (.int p1), .val (.int p2), .val (.int p3), .val (.int p4), .val (.ref b1), .val (.int nv), .unset, .unset, .unset, .unset] [(.int (p4 &&& (2147483647 : Int32)))])
  refine own_by (fun t_ k_ => XS.iload X13.here hx rfl (hb hby at_81) rfl k_) ?_
  show own_Go p e below _ T13 (mkF m 83 #[.val (.int p1), .val (.int p2), .val (.int p3), .val (.int p4), .val (.ref b1), .val (.int nv), .unset, .unset, .unset, .unset] [(.int nv), (.int (p4 &&& (2147483647 : Int32)))])
  refine own_by (fun t_ k_ => iremM X13 hx rfl (hb hby at_83) rfl (own_nz hk hk1) k_) ?_
  show own_Go p e below _ T13 (mkF m 84 #[.val (.int p1), .val (.int p2), .val (.int p3), .val (.int p4), .val (.ref b1), .val (.int nv), .unset, .unset, .unset, .unset] [(.int ((p4 &&& (2147483647 : Int32)) % nv))])
  refine own_by (fun t_ k_ => XS.istore X13.here hx rfl (hb hby at_84) rfl (l' := #[.val (.int p1), .val (.int p2), .val (.int p3), .val (.int p4), .val (.ref b1), .val (.int nv), .val (.int ((p4 &&& (2147483647 : Int32)) % nv)), .unset, .unset, .unset]) rfl k_) ?_
  show own_Go p e below _ T13 (mkF m 86 #[.val (.int p1), .val (.int p2), .val (.int p3), .val (.int p4), .val (.ref b1), .val (.int nv), .val (.int ((p4 &&& (2147483647 : Int32)) % nv)), .unset, .unset, .unset] [])
  generalize h_op : ((p4 &&& (2147483647 : Int32)) % nv) = op
  obtain ⟨on, hon, hop⟩ : ∃ on : Nat, on < k ∧ op.toInt = (on : Int) := h_op ▸ own_op p4 nv hk hk1
  show own_Go p e below _ T13 (mkF m 86 #[.val (.int p1), .val (.int p2), .val (.int p3), .val (.int p4), .val (.ref b1), .val (.int nv), .val (.int op), .unset, .unset, .unset] [])
  refine own_by (fun t_ k_ => XS.aload X13.here hx rfl (hb hby at_86) rfl rfl k_) ?_
  show own_Go p e below _ T13 (mkF m 88 #[.val (.int p1), .val (.int p2), .val (.int p3), .val (.int p4), .val (.ref b1), .val (.int nv), .val (.int op), .unset, .unset, .unset] [(.ref b1)])
  refine own_by (fun t_ k_ => XS.iload X13.here hx rfl (hb hby at_88) rfl k_) ?_
  show own_Go p e below _ T13 (mkF m 90 #[.val (.int p1), .val (.int p2), .val (.int p3), .val (.int p4), .val (.ref b1), .val (.int nv), .val (.int op), .unset, .unset, .unset] [(.int op), (.ref b1)])
  refine own_by (fun t_ k_ => XS.bipush X13.here hx rfl (hb hby at_90) k_) ?_
  show own_Go p e below _ T13 (mkF m 92 #[.val (.int p1), .val (.int p2), .val (.int p3), .val (.int p4), .val (.ref b1), .val (.int nv), .val (.int op), .unset, .unset, .unset] [(.int (34 : Int32)), (.int op), (.ref b1)])
  refine own_castoreN X13 hx hZ e13 V13_0 (by decide) on hop (by simp; omega) (hb hby at_92) ?_
  intro T14 h14 X14 e14 W14 A14
  have V14_0 : own_Arr Z h14 b1 .char (([(.int c2), (.int c4), (.int c6), (.int c8), (.int c10), (.int c12)] : List Value).set on (.int (34 : Int32))) := A14
  have N14 := Fr.snoc X14 N13 g_b1
  have sz14 : n0 ≤ h14.size := Nat.le_trans sz13 (Keep.of_wr W14).1
  obtain ⟨d0, d1, d2, d3, d4, d5, hd6⟩ : ∃ d0 d1 d2 d3 d4 d5 : Int32, ([c2, c4, c6, c8, c10, c12] : List Int32).set on 34 = [d0, d1, d2, d3, d4, d5] := own_ex6 _ (by simp)
  have hok : ∀ c ∈ [d0, d1, d2, d3, d4, d5], own_Ok c := by
    rw [← hd6]; intro c hc
    rcases List.mem_or_eq_of_mem_set hc with q | q
    · simp only [List.mem_cons, List.not_mem_nil, or_false] at q
      rcases q with rfl | rfl | rfl | rfl | rfl | rfl <;> assumption
    · rw [q]; exact ⟨by decide, by decide⟩
  have V15_0 : own_Arr Z h14 b1 .char [.int d0, .int d1, .int d2, .int d3, .int d4, .int d5] := by
    have q := V14_0
    have e : (([(.int c2), (.int c4), (.int c6), (.int c8), (.int c10), (.int c12)] : List Value).set on (.int 34)) = [.int d0, .int d1, .int d2, .int d3, .int d4, .int d5] := by
      have e2 := congrArg (List.map Value.int) hd6
      rw [List.map_set] at e2; exact e2
    exact e ▸ q
  show own_Go p e below _ T14 (mkF m 93 #[.val (.int p1), .val (.int p2), .val (.int p3), .val (.int p4), .val (.ref b1), .val (.int nv), .val (.int op), .unset, .unset, .unset] [])
  refine own_by (fun t_ k_ => XS.aload X14.here hx rfl (hb hby at_93) rfl rfl k_) ?_
  show own_Go p e below _ T14 (mkF m 95 #[.val (.int p1), .val (.int p2), .val (.int p3), .val (.int p4), .val (.ref b1), .val (.int nv), .val (.int op), .unset, .unset, .unset] [(.ref b1)])
  refine own_by (fun t_ k_ => XS.iload X14.here hx rfl (hb hby at_95) rfl k_) ?_
  show own_Go p e below _ T14 (mkF m 97 #[.val (.int p1), .val (.int p2), .val (.int p3), .val (.int p4), .val (.ref b1), .val (.int nv), .val (.int op), .unset, .unset, .unset] [(.int nv), (.ref b1)])
  have S_cs_16 : Sta Z h14 "java/lang/String" "COMPACT_STRINGS" "Z" (.int cs) := (Sta.wr W14 (Sta.wr W13 (Sta.wr W11 (Sta.wr W9 (Sta.wr W7 (Sta.wr W5 (Sta.wr W3 (Sta.ext E1 S_cs))))))))
  refine own_callS (W := 0) X14 hx hZ (y := (⟨"com/example/amendment_ledger/amendmentledger/ledger/TextClosingQuotePinLaw", "line", "([CI)Ljava/lang/String;"⟩ : MethodName)) hown (own_w hw 6 rfl) (own_w hw 7 rfl) (own_w hw 3 rfl) (own_w hw 8 rfl) (by decide) (by rw [hml]; rfl) (argsL := [(.ref b1), (.int nv)]) pd_1 rfl (rm2 l Z a0 hw [] b1 nv k d0 d1 d2 d3 d4 d5 cs h14 n0 sz14 V15_0 hok (own_six hk1 hk6 hk) S_cs_16 hcs) (by decide) (by decide) (Nat.le_of_eq rfl) (by decide) (by decide) (rest := []) e14 rfl (hb hby at_97) ?_
  intro v17 T17 L17 X17 hQ17
  obtain ⟨r17, t17, kb17, rfl, N17q, K17, HS17⟩ := hQ17
  have N17 := Fr.app N14 N17q
  have sz17 : n0 ≤ T17.heap.size := Nat.le_trans sz14 K17.1
  show own_Go p e below _ T17 (mkF m 100 #[.val (.int p1), .val (.int p2), .val (.int p3), .val (.int p4), .val (.ref b1), .val (.int nv), .val (.int op), .unset, .unset, .unset] [(.ref r17)])
  refine own_by (fun t_ k_ => XS.astore X17.here hx rfl (hb hby at_100) rfl rfl (l' := #[.val (.int p1), .val (.int p2), .val (.int p3), .val (.int p4), .val (.ref b1), .val (.int nv), .val (.int op), .val (.ref r17), .unset, .unset]) rfl k_) ?_
  show own_Go p e below _ T17 (mkF m 102 #[.val (.int p1), .val (.int p2), .val (.int p3), .val (.int p4), .val (.ref b1), .val (.int nv), .val (.int op), .val (.ref r17), .unset, .unset] [])
  refine own_by (fun t_ k_ => XS.aload X17.here hx rfl (hb hby at_102) rfl rfl k_) ?_
  show own_Go p e below _ T17 (mkF m 104 #[.val (.int p1), .val (.int p2), .val (.int p3), .val (.int p4), .val (.ref b1), .val (.int nv), .val (.int op), .val (.ref r17), .unset, .unset] [(.ref r17)])
  refine own_by (fun t_ k_ => XS.iload X17.here hx rfl (hb hby at_104) rfl k_) ?_
  show own_Go p e below _ T17 (mkF m 106 #[.val (.int p1), .val (.int p2), .val (.int p3), .val (.int p4), .val (.ref b1), .val (.int nv), .val (.int op), .val (.ref r17), .unset, .unset] [(.int op), (.ref r17)])
  have S_cs_18 : Sta Z T17.heap "java/lang/String" "COMPACT_STRINGS" "Z" (.int cs) := (own_Sta_keep S_cs_16 K17 ns0)
  have S_fm_19 : Sta Z T17.heap "jdk/internal/util/Preconditions" "SIOOBE_FORMATTER" "Ljava/util/function/BiFunction;" fm := (own_Sta_keep (Sta.wr W14 (Sta.wr W13 (Sta.wr W11 (Sta.wr W9 (Sta.wr W7 (Sta.wr W5 (Sta.wr W3 (Sta.ext E1 S_fm)))))))) K17 ns0)
  refine own_callS (W := 0) X17 hx hZ (y := (⟨"com/example/amendment_ledger/amendmentledger/ledger/Value$Text", "closingQuote", "(Ljava/lang/String;I)I"⟩ : MethodName)) hown (own_w hw 38 rfl) (own_w hw 39 rfl) (own_w hw 40 rfl) (own_w hw 41 rfl) (by decide) (by rw [hml]; rfl) (argsL := [(.ref r17), (.int op)]) pd_8 rfl (rm9 l Z a0 hw [] r17 op t17 kb17 ([d0, d1, d2, d3, d4, d5].take k) on cs fm T17.heap n0 sz17 HS17 (fun c hc => hok c (List.mem_of_mem_take hc)) (by simp; omega) hop (by omega) S_cs_18 hcs S_fm_19 hfm) (by decide) (by decide) (Nat.le_of_eq rfl) (by decide) (by decide) (rest := []) rfl rfl (hb hby at_106) ?_
  intro v20 T20 L20 X20 hQ20
  obtain ⟨rfl, N20q, e20⟩ := hQ20
  have N20 := Fr.app N17 N20q
  show own_Go p e below _ T20 (mkF m 109 #[.val (.int p1), .val (.int p2), .val (.int p3), .val (.int p4), .val (.ref b1), .val (.int nv), .val (.int op), .val (.ref r17), .unset, .unset] [(.int (own_cq 8 ([d0, d1, d2, d3, d4, d5].take k) (on + 1)))])
  refine own_by (fun t_ k_ => XS.istore X20.here hx rfl (hb hby at_109) rfl (l' := #[.val (.int p1), .val (.int p2), .val (.int p3), .val (.int p4), .val (.ref b1), .val (.int nv), .val (.int op), .val (.ref r17), .val (.int (own_cq 8 ([d0, d1, d2, d3, d4, d5].take k) (on + 1))), .unset]) rfl k_) ?_
  show own_Go p e below _ T20 (mkF m 111 #[.val (.int p1), .val (.int p2), .val (.int p3), .val (.int p4), .val (.ref b1), .val (.int nv), .val (.int op), .val (.ref r17), .val (.int (own_cq 8 ([d0, d1, d2, d3, d4, d5].take k) (on + 1))), .unset] [])
  refine own_by (fun t_ k_ => XS.iconst X20.here hx rfl (hb hby at_111) k_) ?_
  show own_Go p e below _ T20 (mkF m 112 #[.val (.int p1), .val (.int p2), .val (.int p3), .val (.int p4), .val (.ref b1), .val (.int nv), .val (.int op), .val (.ref r17), .val (.int (own_cq 8 ([d0, d1, d2, d3, d4, d5].take k) (on + 1))), .unset] [(.int (-1 : Int32))])
  refine own_by (fun t_ k_ => XS.istore X20.here hx rfl (hb hby at_112) rfl (l' := #[.val (.int p1), .val (.int p2), .val (.int p3), .val (.int p4), .val (.ref b1), .val (.int nv), .val (.int op), .val (.ref r17), .val (.int (own_cq 8 ([d0, d1, d2, d3, d4, d5].take k) (on + 1))), .val (.int (-1 : Int32))]) rfl k_) ?_
  show own_Go p e below _ T20 (mkF m 114 #[.val (.int p1), .val (.int p2), .val (.int p3), .val (.int p4), .val (.ref b1), .val (.int nv), .val (.int op), .val (.ref r17), .val (.int (own_cq 8 ([d0, d1, d2, d3, d4, d5].take k) (on + 1))), .val (.int (-1 : Int32))] [])
  refine own_by (fun t_ k_ => XS.aload X20.here hx rfl (hb hby at_114) rfl rfl k_) ?_
  show own_Go p e below _ T20 (mkF m 116 #[.val (.int p1), .val (.int p2), .val (.int p3), .val (.int p4), .val (.ref b1), .val (.int nv), .val (.int op), .val (.ref r17), .val (.int (own_cq 8 ([d0, d1, d2, d3, d4, d5].take k) (on + 1))), .val (.int (-1 : Int32))] [(.ref b1)])
  refine own_by (fun t_ k_ => XS.iload X20.here hx rfl (hb hby at_116) rfl k_) ?_
  show own_Go p e below _ T20 (mkF m 118 #[.val (.int p1), .val (.int p2), .val (.int p3), .val (.int p4), .val (.ref b1), .val (.int nv), .val (.int op), .val (.ref r17), .val (.int (own_cq 8 ([d0, d1, d2, d3, d4, d5].take k) (on + 1))), .val (.int (-1 : Int32))] [(.int nv), (.ref b1)])
  refine own_by (fun t_ k_ => XS.iload X20.here hx rfl (hb hby at_118) rfl k_) ?_
  show own_Go p e below _ T20 (mkF m 120 #[.val (.int p1), .val (.int p2), .val (.int p3), .val (.int p4), .val (.ref b1), .val (.int nv), .val (.int op), .val (.ref r17), .val (.int (own_cq 8 ([d0, d1, d2, d3, d4, d5].take k) (on + 1))), .val (.int (-1 : Int32))] [(.int op), (.int nv), (.ref b1)])
  refine own_by (fun t_ k_ => XS.iconst X20.here hx rfl (hb hby at_120) k_) ?_
  show own_Go p e below _ T20 (mkF m 121 #[.val (.int p1), .val (.int p2), .val (.int p3), .val (.int p4), .val (.ref b1), .val (.int nv), .val (.int op), .val (.ref r17), .val (.int (own_cq 8 ([d0, d1, d2, d3, d4, d5].take k) (on + 1))), .val (.int (-1 : Int32))] [(.int (5 : Int32)), (.int op), (.int nv), (.ref b1)])
  have V15_21 : own_Arr Z T17.heap b1 .char [(.int d0), (.int d1), (.int d2), (.int d3), (.int d4), (.int d5)] := (own_Arr.keep V15_0 K17 nin0)
  refine own_callS (W := 0) X20 hx hZ (y := (⟨"com/example/amendment_ledger/amendmentledger/ledger/TextClosingQuotePinLaw", "unescapedQuote", "([CIII)Z"⟩ : MethodName)) hown (own_w hw 74 rfl) (own_w hw 75 rfl) (own_w hw 3 rfl) (own_w hw 76 rfl) (by decide) (by rw [hml]; rfl) (argsL := [(.ref b1), (.int nv), (.int op), (.int (5 : Int32))]) pd_15 rfl (rm17 l Z a0 hw [] b1 nv op (5 : Int32) [d0, d1, d2, d3, d4, d5] k on 5 T17.heap n0 sz17 V15_21 rfl hk hop (by decide) (by decide)) (by decide) (by decide) (Nat.le_of_eq rfl) (by decide) (by decide) (rest := []) e20 rfl (hb hby at_121) ?_
  intro v22 T22 L22 X22 hQ22
  obtain ⟨rfl, N22q, e22⟩ := hQ22
  have N22 := Fr.app N20 N22q
  have J124 : own_Go p e below (own_Fin s (Q0 n0) room_1.cells room_1.slots) T22 (mkF m 130 #[.val (.int p1), .val (.int p2), .val (.int p3), .val (.int p4), .val (.ref b1), .val (.int nv), .val (.int op), .val (.ref r17), .val (.int (own_cq 8 ([d0, d1, d2, d3, d4, d5].take k) (on + 1))), .val (.int (if (own_uq [d0, d1, d2, d3, d4, d5] k on 5) = 0 then (-1 : Int32) else (5 : Int32)))] []) := by
    show own_Go p e below _ T22 (mkF m 130 #[.val (.int p1), .val (.int p2), .val (.int p3), .val (.int p4), .val (.ref b1), .val (.int nv), .val (.int op), .val (.ref r17), .val (.int (own_cq 8 ([d0, d1, d2, d3, d4, d5].take k) (on + 1))), .val (.int (if (own_uq [d0, d1, d2, d3, d4, d5] k on 5) = 0 then (-1 : Int32) else (5 : Int32)))] [])
    refine own_by (fun t_ k_ => XS.aload X22.here hx rfl (hb hby at_130) rfl rfl k_) ?_
    show own_Go p e below _ T22 (mkF m 132 #[.val (.int p1), .val (.int p2), .val (.int p3), .val (.int p4), .val (.ref b1), .val (.int nv), .val (.int op), .val (.ref r17), .val (.int (own_cq 8 ([d0, d1, d2, d3, d4, d5].take k) (on + 1))), .val (.int (if (own_uq [d0, d1, d2, d3, d4, d5] k on 5) = 0 then (-1 : Int32) else (5 : Int32)))] [(.ref b1)])
    refine own_by (fun t_ k_ => XS.iload X22.here hx rfl (hb hby at_132) rfl k_) ?_
    show own_Go p e below _ T22 (mkF m 134 #[.val (.int p1), .val (.int p2), .val (.int p3), .val (.int p4), .val (.ref b1), .val (.int nv), .val (.int op), .val (.ref r17), .val (.int (own_cq 8 ([d0, d1, d2, d3, d4, d5].take k) (on + 1))), .val (.int (if (own_uq [d0, d1, d2, d3, d4, d5] k on 5) = 0 then (-1 : Int32) else (5 : Int32)))] [(.int nv), (.ref b1)])
    refine own_by (fun t_ k_ => XS.iload X22.here hx rfl (hb hby at_134) rfl k_) ?_
    show own_Go p e below _ T22 (mkF m 136 #[.val (.int p1), .val (.int p2), .val (.int p3), .val (.int p4), .val (.ref b1), .val (.int nv), .val (.int op), .val (.ref r17), .val (.int (own_cq 8 ([d0, d1, d2, d3, d4, d5].take k) (on + 1))), .val (.int (if (own_uq [d0, d1, d2, d3, d4, d5] k on 5) = 0 then (-1 : Int32) else (5 : Int32)))] [(.int op), (.int nv), (.ref b1)])
    refine own_by (fun t_ k_ => XS.iconst X22.here hx rfl (hb hby at_136) k_) ?_
    show own_Go p e below _ T22 (mkF m 137 #[.val (.int p1), .val (.int p2), .val (.int p3), .val (.int p4), .val (.ref b1), .val (.int nv), .val (.int op), .val (.ref r17), .val (.int (own_cq 8 ([d0, d1, d2, d3, d4, d5].take k) (on + 1))), .val (.int (if (own_uq [d0, d1, d2, d3, d4, d5] k on 5) = 0 then (-1 : Int32) else (5 : Int32)))] [(.int (4 : Int32)), (.int op), (.int nv), (.ref b1)])
    refine own_callS (W := 0) X22 hx hZ (y := (⟨"com/example/amendment_ledger/amendmentledger/ledger/TextClosingQuotePinLaw", "unescapedQuote", "([CIII)Z"⟩ : MethodName)) hown (own_w hw 74 rfl) (own_w hw 75 rfl) (own_w hw 3 rfl) (own_w hw 76 rfl) (by decide) (by rw [hml]; rfl) (argsL := [(.ref b1), (.int nv), (.int op), (.int (4 : Int32))]) pd_15 rfl (rm17 l Z a0 hw [] b1 nv op (4 : Int32) [d0, d1, d2, d3, d4, d5] k on 4 T17.heap n0 sz17 V15_21 rfl hk hop (by decide) (by decide)) (by decide) (by decide) (Nat.le_of_eq rfl) (by decide) (by decide) (rest := []) e22 rfl (hb hby at_137) ?_
    intro v23 T23 L23 X23 hQ23
    obtain ⟨rfl, N23q, e23⟩ := hQ23
    have N23 := Fr.app N22 N23q
    have J140 : own_Go p e below (own_Fin s (Q0 n0) room_1.cells room_1.slots) T23 (mkF m 146 #[.val (.int p1), .val (.int p2), .val (.int p3), .val (.int p4), .val (.ref b1), .val (.int nv), .val (.int op), .val (.ref r17), .val (.int (own_cq 8 ([d0, d1, d2, d3, d4, d5].take k) (on + 1))), .val (.int (if (own_uq [d0, d1, d2, d3, d4, d5] k on 4) = 0 then (if (own_uq [d0, d1, d2, d3, d4, d5] k on 5) = 0 then (-1 : Int32) else (5 : Int32)) else (4 : Int32)))] []) := by
      show own_Go p e below _ T23 (mkF m 146 #[.val (.int p1), .val (.int p2), .val (.int p3), .val (.int p4), .val (.ref b1), .val (.int nv), .val (.int op), .val (.ref r17), .val (.int (own_cq 8 ([d0, d1, d2, d3, d4, d5].take k) (on + 1))), .val (.int (if (own_uq [d0, d1, d2, d3, d4, d5] k on 4) = 0 then (if (own_uq [d0, d1, d2, d3, d4, d5] k on 5) = 0 then (-1 : Int32) else (5 : Int32)) else (4 : Int32)))] [])
      refine own_by (fun t_ k_ => XS.aload X23.here hx rfl (hb hby at_146) rfl rfl k_) ?_
      show own_Go p e below _ T23 (mkF m 148 #[.val (.int p1), .val (.int p2), .val (.int p3), .val (.int p4), .val (.ref b1), .val (.int nv), .val (.int op), .val (.ref r17), .val (.int (own_cq 8 ([d0, d1, d2, d3, d4, d5].take k) (on + 1))), .val (.int (if (own_uq [d0, d1, d2, d3, d4, d5] k on 4) = 0 then (if (own_uq [d0, d1, d2, d3, d4, d5] k on 5) = 0 then (-1 : Int32) else (5 : Int32)) else (4 : Int32)))] [(.ref b1)])
      refine own_by (fun t_ k_ => XS.iload X23.here hx rfl (hb hby at_148) rfl k_) ?_
      show own_Go p e below _ T23 (mkF m 150 #[.val (.int p1), .val (.int p2), .val (.int p3), .val (.int p4), .val (.ref b1), .val (.int nv), .val (.int op), .val (.ref r17), .val (.int (own_cq 8 ([d0, d1, d2, d3, d4, d5].take k) (on + 1))), .val (.int (if (own_uq [d0, d1, d2, d3, d4, d5] k on 4) = 0 then (if (own_uq [d0, d1, d2, d3, d4, d5] k on 5) = 0 then (-1 : Int32) else (5 : Int32)) else (4 : Int32)))] [(.int nv), (.ref b1)])
      refine own_by (fun t_ k_ => XS.iload X23.here hx rfl (hb hby at_150) rfl k_) ?_
      show own_Go p e below _ T23 (mkF m 152 #[.val (.int p1), .val (.int p2), .val (.int p3), .val (.int p4), .val (.ref b1), .val (.int nv), .val (.int op), .val (.ref r17), .val (.int (own_cq 8 ([d0, d1, d2, d3, d4, d5].take k) (on + 1))), .val (.int (if (own_uq [d0, d1, d2, d3, d4, d5] k on 4) = 0 then (if (own_uq [d0, d1, d2, d3, d4, d5] k on 5) = 0 then (-1 : Int32) else (5 : Int32)) else (4 : Int32)))] [(.int op), (.int nv), (.ref b1)])
      refine own_by (fun t_ k_ => XS.iconst X23.here hx rfl (hb hby at_152) k_) ?_
      show own_Go p e below _ T23 (mkF m 153 #[.val (.int p1), .val (.int p2), .val (.int p3), .val (.int p4), .val (.ref b1), .val (.int nv), .val (.int op), .val (.ref r17), .val (.int (own_cq 8 ([d0, d1, d2, d3, d4, d5].take k) (on + 1))), .val (.int (if (own_uq [d0, d1, d2, d3, d4, d5] k on 4) = 0 then (if (own_uq [d0, d1, d2, d3, d4, d5] k on 5) = 0 then (-1 : Int32) else (5 : Int32)) else (4 : Int32)))] [(.int (3 : Int32)), (.int op), (.int nv), (.ref b1)])
      refine own_callS (W := 0) X23 hx hZ (y := (⟨"com/example/amendment_ledger/amendmentledger/ledger/TextClosingQuotePinLaw", "unescapedQuote", "([CIII)Z"⟩ : MethodName)) hown (own_w hw 74 rfl) (own_w hw 75 rfl) (own_w hw 3 rfl) (own_w hw 76 rfl) (by decide) (by rw [hml]; rfl) (argsL := [(.ref b1), (.int nv), (.int op), (.int (3 : Int32))]) pd_15 rfl (rm17 l Z a0 hw [] b1 nv op (3 : Int32) [d0, d1, d2, d3, d4, d5] k on 3 T17.heap n0 sz17 V15_21 rfl hk hop (by decide) (by decide)) (by decide) (by decide) (Nat.le_of_eq rfl) (by decide) (by decide) (rest := []) e23 rfl (hb hby at_153) ?_
      intro v24 T24 L24 X24 hQ24
      obtain ⟨rfl, N24q, e24⟩ := hQ24
      have N24 := Fr.app N23 N24q
      have J156 : own_Go p e below (own_Fin s (Q0 n0) room_1.cells room_1.slots) T24 (mkF m 162 #[.val (.int p1), .val (.int p2), .val (.int p3), .val (.int p4), .val (.ref b1), .val (.int nv), .val (.int op), .val (.ref r17), .val (.int (own_cq 8 ([d0, d1, d2, d3, d4, d5].take k) (on + 1))), .val (.int (if (own_uq [d0, d1, d2, d3, d4, d5] k on 3) = 0 then (if (own_uq [d0, d1, d2, d3, d4, d5] k on 4) = 0 then (if (own_uq [d0, d1, d2, d3, d4, d5] k on 5) = 0 then (-1 : Int32) else (5 : Int32)) else (4 : Int32)) else (3 : Int32)))] []) := by
        show own_Go p e below _ T24 (mkF m 162 #[.val (.int p1), .val (.int p2), .val (.int p3), .val (.int p4), .val (.ref b1), .val (.int nv), .val (.int op), .val (.ref r17), .val (.int (own_cq 8 ([d0, d1, d2, d3, d4, d5].take k) (on + 1))), .val (.int (if (own_uq [d0, d1, d2, d3, d4, d5] k on 3) = 0 then (if (own_uq [d0, d1, d2, d3, d4, d5] k on 4) = 0 then (if (own_uq [d0, d1, d2, d3, d4, d5] k on 5) = 0 then (-1 : Int32) else (5 : Int32)) else (4 : Int32)) else (3 : Int32)))] [])
        refine own_by (fun t_ k_ => XS.aload X24.here hx rfl (hb hby at_162) rfl rfl k_) ?_
        show own_Go p e below _ T24 (mkF m 164 #[.val (.int p1), .val (.int p2), .val (.int p3), .val (.int p4), .val (.ref b1), .val (.int nv), .val (.int op), .val (.ref r17), .val (.int (own_cq 8 ([d0, d1, d2, d3, d4, d5].take k) (on + 1))), .val (.int (if (own_uq [d0, d1, d2, d3, d4, d5] k on 3) = 0 then (if (own_uq [d0, d1, d2, d3, d4, d5] k on 4) = 0 then (if (own_uq [d0, d1, d2, d3, d4, d5] k on 5) = 0 then (-1 : Int32) else (5 : Int32)) else (4 : Int32)) else (3 : Int32)))] [(.ref b1)])
        refine own_by (fun t_ k_ => XS.iload X24.here hx rfl (hb hby at_164) rfl k_) ?_
        show own_Go p e below _ T24 (mkF m 166 #[.val (.int p1), .val (.int p2), .val (.int p3), .val (.int p4), .val (.ref b1), .val (.int nv), .val (.int op), .val (.ref r17), .val (.int (own_cq 8 ([d0, d1, d2, d3, d4, d5].take k) (on + 1))), .val (.int (if (own_uq [d0, d1, d2, d3, d4, d5] k on 3) = 0 then (if (own_uq [d0, d1, d2, d3, d4, d5] k on 4) = 0 then (if (own_uq [d0, d1, d2, d3, d4, d5] k on 5) = 0 then (-1 : Int32) else (5 : Int32)) else (4 : Int32)) else (3 : Int32)))] [(.int nv), (.ref b1)])
        refine own_by (fun t_ k_ => XS.iload X24.here hx rfl (hb hby at_166) rfl k_) ?_
        show own_Go p e below _ T24 (mkF m 168 #[.val (.int p1), .val (.int p2), .val (.int p3), .val (.int p4), .val (.ref b1), .val (.int nv), .val (.int op), .val (.ref r17), .val (.int (own_cq 8 ([d0, d1, d2, d3, d4, d5].take k) (on + 1))), .val (.int (if (own_uq [d0, d1, d2, d3, d4, d5] k on 3) = 0 then (if (own_uq [d0, d1, d2, d3, d4, d5] k on 4) = 0 then (if (own_uq [d0, d1, d2, d3, d4, d5] k on 5) = 0 then (-1 : Int32) else (5 : Int32)) else (4 : Int32)) else (3 : Int32)))] [(.int op), (.int nv), (.ref b1)])
        refine own_by (fun t_ k_ => XS.iconst X24.here hx rfl (hb hby at_168) k_) ?_
        show own_Go p e below _ T24 (mkF m 169 #[.val (.int p1), .val (.int p2), .val (.int p3), .val (.int p4), .val (.ref b1), .val (.int nv), .val (.int op), .val (.ref r17), .val (.int (own_cq 8 ([d0, d1, d2, d3, d4, d5].take k) (on + 1))), .val (.int (if (own_uq [d0, d1, d2, d3, d4, d5] k on 3) = 0 then (if (own_uq [d0, d1, d2, d3, d4, d5] k on 4) = 0 then (if (own_uq [d0, d1, d2, d3, d4, d5] k on 5) = 0 then (-1 : Int32) else (5 : Int32)) else (4 : Int32)) else (3 : Int32)))] [(.int (2 : Int32)), (.int op), (.int nv), (.ref b1)])
        refine own_callS (W := 0) X24 hx hZ (y := (⟨"com/example/amendment_ledger/amendmentledger/ledger/TextClosingQuotePinLaw", "unescapedQuote", "([CIII)Z"⟩ : MethodName)) hown (own_w hw 74 rfl) (own_w hw 75 rfl) (own_w hw 3 rfl) (own_w hw 76 rfl) (by decide) (by rw [hml]; rfl) (argsL := [(.ref b1), (.int nv), (.int op), (.int (2 : Int32))]) pd_15 rfl (rm17 l Z a0 hw [] b1 nv op (2 : Int32) [d0, d1, d2, d3, d4, d5] k on 2 T17.heap n0 sz17 V15_21 rfl hk hop (by decide) (by decide)) (by decide) (by decide) (Nat.le_of_eq rfl) (by decide) (by decide) (rest := []) e24 rfl (hb hby at_169) ?_
        intro v25 T25 L25 X25 hQ25
        obtain ⟨rfl, N25q, e25⟩ := hQ25
        have N25 := Fr.app N24 N25q
        have J172 : own_Go p e below (own_Fin s (Q0 n0) room_1.cells room_1.slots) T25 (mkF m 178 #[.val (.int p1), .val (.int p2), .val (.int p3), .val (.int p4), .val (.ref b1), .val (.int nv), .val (.int op), .val (.ref r17), .val (.int (own_cq 8 ([d0, d1, d2, d3, d4, d5].take k) (on + 1))), .val (.int (if (own_uq [d0, d1, d2, d3, d4, d5] k on 2) = 0 then (if (own_uq [d0, d1, d2, d3, d4, d5] k on 3) = 0 then (if (own_uq [d0, d1, d2, d3, d4, d5] k on 4) = 0 then (if (own_uq [d0, d1, d2, d3, d4, d5] k on 5) = 0 then (-1 : Int32) else (5 : Int32)) else (4 : Int32)) else (3 : Int32)) else (2 : Int32)))] []) := by
          show own_Go p e below _ T25 (mkF m 178 #[.val (.int p1), .val (.int p2), .val (.int p3), .val (.int p4), .val (.ref b1), .val (.int nv), .val (.int op), .val (.ref r17), .val (.int (own_cq 8 ([d0, d1, d2, d3, d4, d5].take k) (on + 1))), .val (.int (if (own_uq [d0, d1, d2, d3, d4, d5] k on 2) = 0 then (if (own_uq [d0, d1, d2, d3, d4, d5] k on 3) = 0 then (if (own_uq [d0, d1, d2, d3, d4, d5] k on 4) = 0 then (if (own_uq [d0, d1, d2, d3, d4, d5] k on 5) = 0 then (-1 : Int32) else (5 : Int32)) else (4 : Int32)) else (3 : Int32)) else (2 : Int32)))] [])
          refine own_by (fun t_ k_ => XS.aload X25.here hx rfl (hb hby at_178) rfl rfl k_) ?_
          show own_Go p e below _ T25 (mkF m 180 #[.val (.int p1), .val (.int p2), .val (.int p3), .val (.int p4), .val (.ref b1), .val (.int nv), .val (.int op), .val (.ref r17), .val (.int (own_cq 8 ([d0, d1, d2, d3, d4, d5].take k) (on + 1))), .val (.int (if (own_uq [d0, d1, d2, d3, d4, d5] k on 2) = 0 then (if (own_uq [d0, d1, d2, d3, d4, d5] k on 3) = 0 then (if (own_uq [d0, d1, d2, d3, d4, d5] k on 4) = 0 then (if (own_uq [d0, d1, d2, d3, d4, d5] k on 5) = 0 then (-1 : Int32) else (5 : Int32)) else (4 : Int32)) else (3 : Int32)) else (2 : Int32)))] [(.ref b1)])
          refine own_by (fun t_ k_ => XS.iload X25.here hx rfl (hb hby at_180) rfl k_) ?_
          show own_Go p e below _ T25 (mkF m 182 #[.val (.int p1), .val (.int p2), .val (.int p3), .val (.int p4), .val (.ref b1), .val (.int nv), .val (.int op), .val (.ref r17), .val (.int (own_cq 8 ([d0, d1, d2, d3, d4, d5].take k) (on + 1))), .val (.int (if (own_uq [d0, d1, d2, d3, d4, d5] k on 2) = 0 then (if (own_uq [d0, d1, d2, d3, d4, d5] k on 3) = 0 then (if (own_uq [d0, d1, d2, d3, d4, d5] k on 4) = 0 then (if (own_uq [d0, d1, d2, d3, d4, d5] k on 5) = 0 then (-1 : Int32) else (5 : Int32)) else (4 : Int32)) else (3 : Int32)) else (2 : Int32)))] [(.int nv), (.ref b1)])
          refine own_by (fun t_ k_ => XS.iload X25.here hx rfl (hb hby at_182) rfl k_) ?_
          show own_Go p e below _ T25 (mkF m 184 #[.val (.int p1), .val (.int p2), .val (.int p3), .val (.int p4), .val (.ref b1), .val (.int nv), .val (.int op), .val (.ref r17), .val (.int (own_cq 8 ([d0, d1, d2, d3, d4, d5].take k) (on + 1))), .val (.int (if (own_uq [d0, d1, d2, d3, d4, d5] k on 2) = 0 then (if (own_uq [d0, d1, d2, d3, d4, d5] k on 3) = 0 then (if (own_uq [d0, d1, d2, d3, d4, d5] k on 4) = 0 then (if (own_uq [d0, d1, d2, d3, d4, d5] k on 5) = 0 then (-1 : Int32) else (5 : Int32)) else (4 : Int32)) else (3 : Int32)) else (2 : Int32)))] [(.int op), (.int nv), (.ref b1)])
          refine own_by (fun t_ k_ => XS.iconst X25.here hx rfl (hb hby at_184) k_) ?_
          show own_Go p e below _ T25 (mkF m 185 #[.val (.int p1), .val (.int p2), .val (.int p3), .val (.int p4), .val (.ref b1), .val (.int nv), .val (.int op), .val (.ref r17), .val (.int (own_cq 8 ([d0, d1, d2, d3, d4, d5].take k) (on + 1))), .val (.int (if (own_uq [d0, d1, d2, d3, d4, d5] k on 2) = 0 then (if (own_uq [d0, d1, d2, d3, d4, d5] k on 3) = 0 then (if (own_uq [d0, d1, d2, d3, d4, d5] k on 4) = 0 then (if (own_uq [d0, d1, d2, d3, d4, d5] k on 5) = 0 then (-1 : Int32) else (5 : Int32)) else (4 : Int32)) else (3 : Int32)) else (2 : Int32)))] [(.int (1 : Int32)), (.int op), (.int nv), (.ref b1)])
          refine own_callS (W := 0) X25 hx hZ (y := (⟨"com/example/amendment_ledger/amendmentledger/ledger/TextClosingQuotePinLaw", "unescapedQuote", "([CIII)Z"⟩ : MethodName)) hown (own_w hw 74 rfl) (own_w hw 75 rfl) (own_w hw 3 rfl) (own_w hw 76 rfl) (by decide) (by rw [hml]; rfl) (argsL := [(.ref b1), (.int nv), (.int op), (.int (1 : Int32))]) pd_15 rfl (rm17 l Z a0 hw [] b1 nv op (1 : Int32) [d0, d1, d2, d3, d4, d5] k on 1 T17.heap n0 sz17 V15_21 rfl hk hop (by decide) (by decide)) (by decide) (by decide) (Nat.le_of_eq rfl) (by decide) (by decide) (rest := []) e25 rfl (hb hby at_185) ?_
          intro v26 T26 L26 X26 hQ26
          obtain ⟨rfl, N26q, e26⟩ := hQ26
          have N26 := Fr.app N25 N26q
          have J188 : own_Go p e below (own_Fin s (Q0 n0) room_1.cells room_1.slots) T26 (mkF m 194 #[.val (.int p1), .val (.int p2), .val (.int p3), .val (.int p4), .val (.ref b1), .val (.int nv), .val (.int op), .val (.ref r17), .val (.int (own_cq 8 ([d0, d1, d2, d3, d4, d5].take k) (on + 1))), .val (.int (if (own_uq [d0, d1, d2, d3, d4, d5] k on 1) = 0 then (if (own_uq [d0, d1, d2, d3, d4, d5] k on 2) = 0 then (if (own_uq [d0, d1, d2, d3, d4, d5] k on 3) = 0 then (if (own_uq [d0, d1, d2, d3, d4, d5] k on 4) = 0 then (if (own_uq [d0, d1, d2, d3, d4, d5] k on 5) = 0 then (-1 : Int32) else (5 : Int32)) else (4 : Int32)) else (3 : Int32)) else (2 : Int32)) else (1 : Int32)))] []) := by
            show own_Go p e below _ T26 (mkF m 194 #[.val (.int p1), .val (.int p2), .val (.int p3), .val (.int p4), .val (.ref b1), .val (.int nv), .val (.int op), .val (.ref r17), .val (.int (own_cq 8 ([d0, d1, d2, d3, d4, d5].take k) (on + 1))), .val (.int (if (own_uq [d0, d1, d2, d3, d4, d5] k on 1) = 0 then (if (own_uq [d0, d1, d2, d3, d4, d5] k on 2) = 0 then (if (own_uq [d0, d1, d2, d3, d4, d5] k on 3) = 0 then (if (own_uq [d0, d1, d2, d3, d4, d5] k on 4) = 0 then (if (own_uq [d0, d1, d2, d3, d4, d5] k on 5) = 0 then (-1 : Int32) else (5 : Int32)) else (4 : Int32)) else (3 : Int32)) else (2 : Int32)) else (1 : Int32)))] [])
            refine own_by (fun t_ k_ => XS.aload X26.here hx rfl (hb hby at_194) rfl rfl k_) ?_
            show own_Go p e below _ T26 (mkF m 196 #[.val (.int p1), .val (.int p2), .val (.int p3), .val (.int p4), .val (.ref b1), .val (.int nv), .val (.int op), .val (.ref r17), .val (.int (own_cq 8 ([d0, d1, d2, d3, d4, d5].take k) (on + 1))), .val (.int (if (own_uq [d0, d1, d2, d3, d4, d5] k on 1) = 0 then (if (own_uq [d0, d1, d2, d3, d4, d5] k on 2) = 0 then (if (own_uq [d0, d1, d2, d3, d4, d5] k on 3) = 0 then (if (own_uq [d0, d1, d2, d3, d4, d5] k on 4) = 0 then (if (own_uq [d0, d1, d2, d3, d4, d5] k on 5) = 0 then (-1 : Int32) else (5 : Int32)) else (4 : Int32)) else (3 : Int32)) else (2 : Int32)) else (1 : Int32)))] [(.ref b1)])
            refine own_by (fun t_ k_ => XS.iload X26.here hx rfl (hb hby at_196) rfl k_) ?_
            show own_Go p e below _ T26 (mkF m 198 #[.val (.int p1), .val (.int p2), .val (.int p3), .val (.int p4), .val (.ref b1), .val (.int nv), .val (.int op), .val (.ref r17), .val (.int (own_cq 8 ([d0, d1, d2, d3, d4, d5].take k) (on + 1))), .val (.int (if (own_uq [d0, d1, d2, d3, d4, d5] k on 1) = 0 then (if (own_uq [d0, d1, d2, d3, d4, d5] k on 2) = 0 then (if (own_uq [d0, d1, d2, d3, d4, d5] k on 3) = 0 then (if (own_uq [d0, d1, d2, d3, d4, d5] k on 4) = 0 then (if (own_uq [d0, d1, d2, d3, d4, d5] k on 5) = 0 then (-1 : Int32) else (5 : Int32)) else (4 : Int32)) else (3 : Int32)) else (2 : Int32)) else (1 : Int32)))] [(.int nv), (.ref b1)])
            refine own_by (fun t_ k_ => XS.iload X26.here hx rfl (hb hby at_198) rfl k_) ?_
            show own_Go p e below _ T26 (mkF m 200 #[.val (.int p1), .val (.int p2), .val (.int p3), .val (.int p4), .val (.ref b1), .val (.int nv), .val (.int op), .val (.ref r17), .val (.int (own_cq 8 ([d0, d1, d2, d3, d4, d5].take k) (on + 1))), .val (.int (if (own_uq [d0, d1, d2, d3, d4, d5] k on 1) = 0 then (if (own_uq [d0, d1, d2, d3, d4, d5] k on 2) = 0 then (if (own_uq [d0, d1, d2, d3, d4, d5] k on 3) = 0 then (if (own_uq [d0, d1, d2, d3, d4, d5] k on 4) = 0 then (if (own_uq [d0, d1, d2, d3, d4, d5] k on 5) = 0 then (-1 : Int32) else (5 : Int32)) else (4 : Int32)) else (3 : Int32)) else (2 : Int32)) else (1 : Int32)))] [(.int op), (.int nv), (.ref b1)])
            refine own_by (fun t_ k_ => XS.iconst X26.here hx rfl (hb hby at_200) k_) ?_
            show own_Go p e below _ T26 (mkF m 201 #[.val (.int p1), .val (.int p2), .val (.int p3), .val (.int p4), .val (.ref b1), .val (.int nv), .val (.int op), .val (.ref r17), .val (.int (own_cq 8 ([d0, d1, d2, d3, d4, d5].take k) (on + 1))), .val (.int (if (own_uq [d0, d1, d2, d3, d4, d5] k on 1) = 0 then (if (own_uq [d0, d1, d2, d3, d4, d5] k on 2) = 0 then (if (own_uq [d0, d1, d2, d3, d4, d5] k on 3) = 0 then (if (own_uq [d0, d1, d2, d3, d4, d5] k on 4) = 0 then (if (own_uq [d0, d1, d2, d3, d4, d5] k on 5) = 0 then (-1 : Int32) else (5 : Int32)) else (4 : Int32)) else (3 : Int32)) else (2 : Int32)) else (1 : Int32)))] [(.int (0 : Int32)), (.int op), (.int nv), (.ref b1)])
            refine own_callS (W := 0) X26 hx hZ (y := (⟨"com/example/amendment_ledger/amendmentledger/ledger/TextClosingQuotePinLaw", "unescapedQuote", "([CIII)Z"⟩ : MethodName)) hown (own_w hw 74 rfl) (own_w hw 75 rfl) (own_w hw 3 rfl) (own_w hw 76 rfl) (by decide) (by rw [hml]; rfl) (argsL := [(.ref b1), (.int nv), (.int op), (.int (0 : Int32))]) pd_15 rfl (rm17 l Z a0 hw [] b1 nv op (0 : Int32) [d0, d1, d2, d3, d4, d5] k on 0 T17.heap n0 sz17 V15_21 rfl hk hop (by decide) (by decide)) (by decide) (by decide) (Nat.le_of_eq rfl) (by decide) (by decide) (rest := []) e26 rfl (hb hby at_201) ?_
            intro v27 T27 L27 X27 hQ27
            obtain ⟨rfl, N27q, e27⟩ := hQ27
            have N27 := Fr.app N26 N27q
            have J204 : own_Go p e below (own_Fin s (Q0 n0) room_1.cells room_1.slots) T27 (mkF m 210 #[.val (.int p1), .val (.int p2), .val (.int p3), .val (.int p4), .val (.ref b1), .val (.int nv), .val (.int op), .val (.ref r17), .val (.int (own_cq 8 ([d0, d1, d2, d3, d4, d5].take k) (on + 1))), .val (.int (if (own_uq [d0, d1, d2, d3, d4, d5] k on 0) = 0 then (if (own_uq [d0, d1, d2, d3, d4, d5] k on 1) = 0 then (if (own_uq [d0, d1, d2, d3, d4, d5] k on 2) = 0 then (if (own_uq [d0, d1, d2, d3, d4, d5] k on 3) = 0 then (if (own_uq [d0, d1, d2, d3, d4, d5] k on 4) = 0 then (if (own_uq [d0, d1, d2, d3, d4, d5] k on 5) = 0 then (-1 : Int32) else (5 : Int32)) else (4 : Int32)) else (3 : Int32)) else (2 : Int32)) else (1 : Int32)) else (0 : Int32)))] []) := by
              show own_Go p e below _ T27 (mkF m 210 #[.val (.int p1), .val (.int p2), .val (.int p3), .val (.int p4), .val (.ref b1), .val (.int nv), .val (.int op), .val (.ref r17), .val (.int (own_cq 8 ([d0, d1, d2, d3, d4, d5].take k) (on + 1))), .val (.int (if (own_uq [d0, d1, d2, d3, d4, d5] k on 0) = 0 then (if (own_uq [d0, d1, d2, d3, d4, d5] k on 1) = 0 then (if (own_uq [d0, d1, d2, d3, d4, d5] k on 2) = 0 then (if (own_uq [d0, d1, d2, d3, d4, d5] k on 3) = 0 then (if (own_uq [d0, d1, d2, d3, d4, d5] k on 4) = 0 then (if (own_uq [d0, d1, d2, d3, d4, d5] k on 5) = 0 then (-1 : Int32) else (5 : Int32)) else (4 : Int32)) else (3 : Int32)) else (2 : Int32)) else (1 : Int32)) else (0 : Int32)))] [])
              refine own_by (fun t_ k_ => XS.iload X27.here hx rfl (hb hby at_210) rfl k_) ?_
              show own_Go p e below _ T27 (mkF m 212 #[.val (.int p1), .val (.int p2), .val (.int p3), .val (.int p4), .val (.ref b1), .val (.int nv), .val (.int op), .val (.ref r17), .val (.int (own_cq 8 ([d0, d1, d2, d3, d4, d5].take k) (on + 1))), .val (.int (if (own_uq [d0, d1, d2, d3, d4, d5] k on 0) = 0 then (if (own_uq [d0, d1, d2, d3, d4, d5] k on 1) = 0 then (if (own_uq [d0, d1, d2, d3, d4, d5] k on 2) = 0 then (if (own_uq [d0, d1, d2, d3, d4, d5] k on 3) = 0 then (if (own_uq [d0, d1, d2, d3, d4, d5] k on 4) = 0 then (if (own_uq [d0, d1, d2, d3, d4, d5] k on 5) = 0 then (-1 : Int32) else (5 : Int32)) else (4 : Int32)) else (3 : Int32)) else (2 : Int32)) else (1 : Int32)) else (0 : Int32)))] [(.int (own_cq 8 ([d0, d1, d2, d3, d4, d5].take k) (on + 1)))])
              refine own_by (fun t_ k_ => XS.iload X27.here hx rfl (hb hby at_212) rfl k_) ?_
              show own_Go p e below _ T27 (mkF m 214 #[.val (.int p1), .val (.int p2), .val (.int p3), .val (.int p4), .val (.ref b1), .val (.int nv), .val (.int op), .val (.ref r17), .val (.int (own_cq 8 ([d0, d1, d2, d3, d4, d5].take k) (on + 1))), .val (.int (if (own_uq [d0, d1, d2, d3, d4, d5] k on 0) = 0 then (if (own_uq [d0, d1, d2, d3, d4, d5] k on 1) = 0 then (if (own_uq [d0, d1, d2, d3, d4, d5] k on 2) = 0 then (if (own_uq [d0, d1, d2, d3, d4, d5] k on 3) = 0 then (if (own_uq [d0, d1, d2, d3, d4, d5] k on 4) = 0 then (if (own_uq [d0, d1, d2, d3, d4, d5] k on 5) = 0 then (-1 : Int32) else (5 : Int32)) else (4 : Int32)) else (3 : Int32)) else (2 : Int32)) else (1 : Int32)) else (0 : Int32)))] [(.int (if (own_uq [d0, d1, d2, d3, d4, d5] k on 0) = 0 then (if (own_uq [d0, d1, d2, d3, d4, d5] k on 1) = 0 then (if (own_uq [d0, d1, d2, d3, d4, d5] k on 2) = 0 then (if (own_uq [d0, d1, d2, d3, d4, d5] k on 3) = 0 then (if (own_uq [d0, d1, d2, d3, d4, d5] k on 4) = 0 then (if (own_uq [d0, d1, d2, d3, d4, d5] k on 5) = 0 then (-1 : Int32) else (5 : Int32)) else (4 : Int32)) else (3 : Int32)) else (2 : Int32)) else (1 : Int32)) else (0 : Int32))), (.int (own_cq 8 ([d0, d1, d2, d3, d4, d5].take k) (on + 1)))])
              refine own_icmp X27 hx 221 (hb hby at_214) (by decide) (by decide) (fun hc => absurd (show (own_cq 8 ([d0, d1, d2, d3, d4, d5].take k) (on + 1)) = (if (own_uq [d0, d1, d2, d3, d4, d5] k on 0) = 0 then (if (own_uq [d0, d1, d2, d3, d4, d5] k on 1) = 0 then (if (own_uq [d0, d1, d2, d3, d4, d5] k on 2) = 0 then (if (own_uq [d0, d1, d2, d3, d4, d5] k on 3) = 0 then (if (own_uq [d0, d1, d2, d3, d4, d5] k on 4) = 0 then (if (own_uq [d0, d1, d2, d3, d4, d5] k on 5) = 0 then (-1 : Int32) else (5 : Int32)) else (4 : Int32)) else (3 : Int32)) else (2 : Int32)) else (1 : Int32)) else (0 : Int32)) from own_final rfl hk1 hk6 hon) (by first | exact hc | exact not_not_intro hc)) (fun _ => ?_)
              show own_Go p e below _ T27 (mkF m 217 #[.val (.int p1), .val (.int p2), .val (.int p3), .val (.int p4), .val (.ref b1), .val (.int nv), .val (.int op), .val (.ref r17), .val (.int (own_cq 8 ([d0, d1, d2, d3, d4, d5].take k) (on + 1))), .val (.int (if (own_uq [d0, d1, d2, d3, d4, d5] k on 0) = 0 then (if (own_uq [d0, d1, d2, d3, d4, d5] k on 1) = 0 then (if (own_uq [d0, d1, d2, d3, d4, d5] k on 2) = 0 then (if (own_uq [d0, d1, d2, d3, d4, d5] k on 3) = 0 then (if (own_uq [d0, d1, d2, d3, d4, d5] k on 4) = 0 then (if (own_uq [d0, d1, d2, d3, d4, d5] k on 5) = 0 then (-1 : Int32) else (5 : Int32)) else (4 : Int32)) else (3 : Int32)) else (2 : Int32)) else (1 : Int32)) else (0 : Int32)))] [])
              refine own_by (fun t_ k_ => XS.iconst X27.here hx rfl (hb hby at_217) k_) ?_
              show own_Go p e below _ T27 (mkF m 218 #[.val (.int p1), .val (.int p2), .val (.int p3), .val (.int p4), .val (.ref b1), .val (.int nv), .val (.int op), .val (.ref r17), .val (.int (own_cq 8 ([d0, d1, d2, d3, d4, d5].take k) (on + 1))), .val (.int (if (own_uq [d0, d1, d2, d3, d4, d5] k on 0) = 0 then (if (own_uq [d0, d1, d2, d3, d4, d5] k on 1) = 0 then (if (own_uq [d0, d1, d2, d3, d4, d5] k on 2) = 0 then (if (own_uq [d0, d1, d2, d3, d4, d5] k on 3) = 0 then (if (own_uq [d0, d1, d2, d3, d4, d5] k on 4) = 0 then (if (own_uq [d0, d1, d2, d3, d4, d5] k on 5) = 0 then (-1 : Int32) else (5 : Int32)) else (4 : Int32)) else (3 : Int32)) else (2 : Int32)) else (1 : Int32)) else (0 : Int32)))] [(.int (1 : Int32))])
              refine own_by (fun t_ k_ => XS.goto X27.here hx rfl (pc0 := 218) (pc' := 222) rfl (hb hby at_218) (by decide) (by decide) k_) ?_
              show own_Go p e below _ T27 (mkF m 222 #[.val (.int p1), .val (.int p2), .val (.int p3), .val (.int p4), .val (.ref b1), .val (.int nv), .val (.int op), .val (.ref r17), .val (.int (own_cq 8 ([d0, d1, d2, d3, d4, d5].take k) (on + 1))), .val (.int (if (own_uq [d0, d1, d2, d3, d4, d5] k on 0) = 0 then (if (own_uq [d0, d1, d2, d3, d4, d5] k on 1) = 0 then (if (own_uq [d0, d1, d2, d3, d4, d5] k on 2) = 0 then (if (own_uq [d0, d1, d2, d3, d4, d5] k on 3) = 0 then (if (own_uq [d0, d1, d2, d3, d4, d5] k on 4) = 0 then (if (own_uq [d0, d1, d2, d3, d4, d5] k on 5) = 0 then (-1 : Int32) else (5 : Int32)) else (4 : Int32)) else (3 : Int32)) else (2 : Int32)) else (1 : Int32)) else (0 : Int32)))] [(.int (1 : Int32))])
              refine own_retZ X27 hx hlk Bd.returns (by decide) (hb hby at_222) e27 (by decide) (by decide) ?_
              exact ⟨rfl, N27⟩
            show own_Go p e below _ T27 (mkF m 204 #[.val (.int p1), .val (.int p2), .val (.int p3), .val (.int p4), .val (.ref b1), .val (.int nv), .val (.int op), .val (.ref r17), .val (.int (own_cq 8 ([d0, d1, d2, d3, d4, d5].take k) (on + 1))), .val (.int (if (own_uq [d0, d1, d2, d3, d4, d5] k on 1) = 0 then (if (own_uq [d0, d1, d2, d3, d4, d5] k on 2) = 0 then (if (own_uq [d0, d1, d2, d3, d4, d5] k on 3) = 0 then (if (own_uq [d0, d1, d2, d3, d4, d5] k on 4) = 0 then (if (own_uq [d0, d1, d2, d3, d4, d5] k on 5) = 0 then (-1 : Int32) else (5 : Int32)) else (4 : Int32)) else (3 : Int32)) else (2 : Int32)) else (1 : Int32)))] [(.int (own_uq [d0, d1, d2, d3, d4, d5] k on 0))])
            refine own_if X27 hx 210 (hb hby at_204) (by decide) (by decide) (fun (hc204 : (own_uq [d0, d1, d2, d3, d4, d5] k on 0) = (0 : Int32)) => ?_) (fun (hc204 : ¬ (own_uq [d0, d1, d2, d3, d4, d5] k on 0) = (0 : Int32)) => ?_)
            · rw [if_pos hc204] at J204; exact J204
            · show own_Go p e below _ T27 (mkF m 207 #[.val (.int p1), .val (.int p2), .val (.int p3), .val (.int p4), .val (.ref b1), .val (.int nv), .val (.int op), .val (.ref r17), .val (.int (own_cq 8 ([d0, d1, d2, d3, d4, d5].take k) (on + 1))), .val (.int (if (own_uq [d0, d1, d2, d3, d4, d5] k on 1) = 0 then (if (own_uq [d0, d1, d2, d3, d4, d5] k on 2) = 0 then (if (own_uq [d0, d1, d2, d3, d4, d5] k on 3) = 0 then (if (own_uq [d0, d1, d2, d3, d4, d5] k on 4) = 0 then (if (own_uq [d0, d1, d2, d3, d4, d5] k on 5) = 0 then (-1 : Int32) else (5 : Int32)) else (4 : Int32)) else (3 : Int32)) else (2 : Int32)) else (1 : Int32)))] [])
              refine own_by (fun t_ k_ => XS.iconst X27.here hx rfl (hb hby at_207) k_) ?_
              show own_Go p e below _ T27 (mkF m 208 #[.val (.int p1), .val (.int p2), .val (.int p3), .val (.int p4), .val (.ref b1), .val (.int nv), .val (.int op), .val (.ref r17), .val (.int (own_cq 8 ([d0, d1, d2, d3, d4, d5].take k) (on + 1))), .val (.int (if (own_uq [d0, d1, d2, d3, d4, d5] k on 1) = 0 then (if (own_uq [d0, d1, d2, d3, d4, d5] k on 2) = 0 then (if (own_uq [d0, d1, d2, d3, d4, d5] k on 3) = 0 then (if (own_uq [d0, d1, d2, d3, d4, d5] k on 4) = 0 then (if (own_uq [d0, d1, d2, d3, d4, d5] k on 5) = 0 then (-1 : Int32) else (5 : Int32)) else (4 : Int32)) else (3 : Int32)) else (2 : Int32)) else (1 : Int32)))] [(.int (0 : Int32))])
              refine own_by (fun t_ k_ => XS.istore X27.here hx rfl (hb hby at_208) rfl (l' := #[.val (.int p1), .val (.int p2), .val (.int p3), .val (.int p4), .val (.ref b1), .val (.int nv), .val (.int op), .val (.ref r17), .val (.int (own_cq 8 ([d0, d1, d2, d3, d4, d5].take k) (on + 1))), .val (.int (0 : Int32))]) rfl k_) ?_
              rw [if_neg hc204] at J204
              exact J204
          show own_Go p e below _ T26 (mkF m 188 #[.val (.int p1), .val (.int p2), .val (.int p3), .val (.int p4), .val (.ref b1), .val (.int nv), .val (.int op), .val (.ref r17), .val (.int (own_cq 8 ([d0, d1, d2, d3, d4, d5].take k) (on + 1))), .val (.int (if (own_uq [d0, d1, d2, d3, d4, d5] k on 2) = 0 then (if (own_uq [d0, d1, d2, d3, d4, d5] k on 3) = 0 then (if (own_uq [d0, d1, d2, d3, d4, d5] k on 4) = 0 then (if (own_uq [d0, d1, d2, d3, d4, d5] k on 5) = 0 then (-1 : Int32) else (5 : Int32)) else (4 : Int32)) else (3 : Int32)) else (2 : Int32)))] [(.int (own_uq [d0, d1, d2, d3, d4, d5] k on 1))])
          refine own_if X26 hx 194 (hb hby at_188) (by decide) (by decide) (fun (hc188 : (own_uq [d0, d1, d2, d3, d4, d5] k on 1) = (0 : Int32)) => ?_) (fun (hc188 : ¬ (own_uq [d0, d1, d2, d3, d4, d5] k on 1) = (0 : Int32)) => ?_)
          · rw [if_pos hc188] at J188; exact J188
          · show own_Go p e below _ T26 (mkF m 191 #[.val (.int p1), .val (.int p2), .val (.int p3), .val (.int p4), .val (.ref b1), .val (.int nv), .val (.int op), .val (.ref r17), .val (.int (own_cq 8 ([d0, d1, d2, d3, d4, d5].take k) (on + 1))), .val (.int (if (own_uq [d0, d1, d2, d3, d4, d5] k on 2) = 0 then (if (own_uq [d0, d1, d2, d3, d4, d5] k on 3) = 0 then (if (own_uq [d0, d1, d2, d3, d4, d5] k on 4) = 0 then (if (own_uq [d0, d1, d2, d3, d4, d5] k on 5) = 0 then (-1 : Int32) else (5 : Int32)) else (4 : Int32)) else (3 : Int32)) else (2 : Int32)))] [])
            refine own_by (fun t_ k_ => XS.iconst X26.here hx rfl (hb hby at_191) k_) ?_
            show own_Go p e below _ T26 (mkF m 192 #[.val (.int p1), .val (.int p2), .val (.int p3), .val (.int p4), .val (.ref b1), .val (.int nv), .val (.int op), .val (.ref r17), .val (.int (own_cq 8 ([d0, d1, d2, d3, d4, d5].take k) (on + 1))), .val (.int (if (own_uq [d0, d1, d2, d3, d4, d5] k on 2) = 0 then (if (own_uq [d0, d1, d2, d3, d4, d5] k on 3) = 0 then (if (own_uq [d0, d1, d2, d3, d4, d5] k on 4) = 0 then (if (own_uq [d0, d1, d2, d3, d4, d5] k on 5) = 0 then (-1 : Int32) else (5 : Int32)) else (4 : Int32)) else (3 : Int32)) else (2 : Int32)))] [(.int (1 : Int32))])
            refine own_by (fun t_ k_ => XS.istore X26.here hx rfl (hb hby at_192) rfl (l' := #[.val (.int p1), .val (.int p2), .val (.int p3), .val (.int p4), .val (.ref b1), .val (.int nv), .val (.int op), .val (.ref r17), .val (.int (own_cq 8 ([d0, d1, d2, d3, d4, d5].take k) (on + 1))), .val (.int (1 : Int32))]) rfl k_) ?_
            rw [if_neg hc188] at J188
            exact J188
        show own_Go p e below _ T25 (mkF m 172 #[.val (.int p1), .val (.int p2), .val (.int p3), .val (.int p4), .val (.ref b1), .val (.int nv), .val (.int op), .val (.ref r17), .val (.int (own_cq 8 ([d0, d1, d2, d3, d4, d5].take k) (on + 1))), .val (.int (if (own_uq [d0, d1, d2, d3, d4, d5] k on 3) = 0 then (if (own_uq [d0, d1, d2, d3, d4, d5] k on 4) = 0 then (if (own_uq [d0, d1, d2, d3, d4, d5] k on 5) = 0 then (-1 : Int32) else (5 : Int32)) else (4 : Int32)) else (3 : Int32)))] [(.int (own_uq [d0, d1, d2, d3, d4, d5] k on 2))])
        refine own_if X25 hx 178 (hb hby at_172) (by decide) (by decide) (fun (hc172 : (own_uq [d0, d1, d2, d3, d4, d5] k on 2) = (0 : Int32)) => ?_) (fun (hc172 : ¬ (own_uq [d0, d1, d2, d3, d4, d5] k on 2) = (0 : Int32)) => ?_)
        · rw [if_pos hc172] at J172; exact J172
        · show own_Go p e below _ T25 (mkF m 175 #[.val (.int p1), .val (.int p2), .val (.int p3), .val (.int p4), .val (.ref b1), .val (.int nv), .val (.int op), .val (.ref r17), .val (.int (own_cq 8 ([d0, d1, d2, d3, d4, d5].take k) (on + 1))), .val (.int (if (own_uq [d0, d1, d2, d3, d4, d5] k on 3) = 0 then (if (own_uq [d0, d1, d2, d3, d4, d5] k on 4) = 0 then (if (own_uq [d0, d1, d2, d3, d4, d5] k on 5) = 0 then (-1 : Int32) else (5 : Int32)) else (4 : Int32)) else (3 : Int32)))] [])
          refine own_by (fun t_ k_ => XS.iconst X25.here hx rfl (hb hby at_175) k_) ?_
          show own_Go p e below _ T25 (mkF m 176 #[.val (.int p1), .val (.int p2), .val (.int p3), .val (.int p4), .val (.ref b1), .val (.int nv), .val (.int op), .val (.ref r17), .val (.int (own_cq 8 ([d0, d1, d2, d3, d4, d5].take k) (on + 1))), .val (.int (if (own_uq [d0, d1, d2, d3, d4, d5] k on 3) = 0 then (if (own_uq [d0, d1, d2, d3, d4, d5] k on 4) = 0 then (if (own_uq [d0, d1, d2, d3, d4, d5] k on 5) = 0 then (-1 : Int32) else (5 : Int32)) else (4 : Int32)) else (3 : Int32)))] [(.int (2 : Int32))])
          refine own_by (fun t_ k_ => XS.istore X25.here hx rfl (hb hby at_176) rfl (l' := #[.val (.int p1), .val (.int p2), .val (.int p3), .val (.int p4), .val (.ref b1), .val (.int nv), .val (.int op), .val (.ref r17), .val (.int (own_cq 8 ([d0, d1, d2, d3, d4, d5].take k) (on + 1))), .val (.int (2 : Int32))]) rfl k_) ?_
          rw [if_neg hc172] at J172
          exact J172
      show own_Go p e below _ T24 (mkF m 156 #[.val (.int p1), .val (.int p2), .val (.int p3), .val (.int p4), .val (.ref b1), .val (.int nv), .val (.int op), .val (.ref r17), .val (.int (own_cq 8 ([d0, d1, d2, d3, d4, d5].take k) (on + 1))), .val (.int (if (own_uq [d0, d1, d2, d3, d4, d5] k on 4) = 0 then (if (own_uq [d0, d1, d2, d3, d4, d5] k on 5) = 0 then (-1 : Int32) else (5 : Int32)) else (4 : Int32)))] [(.int (own_uq [d0, d1, d2, d3, d4, d5] k on 3))])
      refine own_if X24 hx 162 (hb hby at_156) (by decide) (by decide) (fun (hc156 : (own_uq [d0, d1, d2, d3, d4, d5] k on 3) = (0 : Int32)) => ?_) (fun (hc156 : ¬ (own_uq [d0, d1, d2, d3, d4, d5] k on 3) = (0 : Int32)) => ?_)
      · rw [if_pos hc156] at J156; exact J156
      · show own_Go p e below _ T24 (mkF m 159 #[.val (.int p1), .val (.int p2), .val (.int p3), .val (.int p4), .val (.ref b1), .val (.int nv), .val (.int op), .val (.ref r17), .val (.int (own_cq 8 ([d0, d1, d2, d3, d4, d5].take k) (on + 1))), .val (.int (if (own_uq [d0, d1, d2, d3, d4, d5] k on 4) = 0 then (if (own_uq [d0, d1, d2, d3, d4, d5] k on 5) = 0 then (-1 : Int32) else (5 : Int32)) else (4 : Int32)))] [])
        refine own_by (fun t_ k_ => XS.iconst X24.here hx rfl (hb hby at_159) k_) ?_
        show own_Go p e below _ T24 (mkF m 160 #[.val (.int p1), .val (.int p2), .val (.int p3), .val (.int p4), .val (.ref b1), .val (.int nv), .val (.int op), .val (.ref r17), .val (.int (own_cq 8 ([d0, d1, d2, d3, d4, d5].take k) (on + 1))), .val (.int (if (own_uq [d0, d1, d2, d3, d4, d5] k on 4) = 0 then (if (own_uq [d0, d1, d2, d3, d4, d5] k on 5) = 0 then (-1 : Int32) else (5 : Int32)) else (4 : Int32)))] [(.int (3 : Int32))])
        refine own_by (fun t_ k_ => XS.istore X24.here hx rfl (hb hby at_160) rfl (l' := #[.val (.int p1), .val (.int p2), .val (.int p3), .val (.int p4), .val (.ref b1), .val (.int nv), .val (.int op), .val (.ref r17), .val (.int (own_cq 8 ([d0, d1, d2, d3, d4, d5].take k) (on + 1))), .val (.int (3 : Int32))]) rfl k_) ?_
        rw [if_neg hc156] at J156
        exact J156
    show own_Go p e below _ T23 (mkF m 140 #[.val (.int p1), .val (.int p2), .val (.int p3), .val (.int p4), .val (.ref b1), .val (.int nv), .val (.int op), .val (.ref r17), .val (.int (own_cq 8 ([d0, d1, d2, d3, d4, d5].take k) (on + 1))), .val (.int (if (own_uq [d0, d1, d2, d3, d4, d5] k on 5) = 0 then (-1 : Int32) else (5 : Int32)))] [(.int (own_uq [d0, d1, d2, d3, d4, d5] k on 4))])
    refine own_if X23 hx 146 (hb hby at_140) (by decide) (by decide) (fun (hc140 : (own_uq [d0, d1, d2, d3, d4, d5] k on 4) = (0 : Int32)) => ?_) (fun (hc140 : ¬ (own_uq [d0, d1, d2, d3, d4, d5] k on 4) = (0 : Int32)) => ?_)
    · rw [if_pos hc140] at J140; exact J140
    · show own_Go p e below _ T23 (mkF m 143 #[.val (.int p1), .val (.int p2), .val (.int p3), .val (.int p4), .val (.ref b1), .val (.int nv), .val (.int op), .val (.ref r17), .val (.int (own_cq 8 ([d0, d1, d2, d3, d4, d5].take k) (on + 1))), .val (.int (if (own_uq [d0, d1, d2, d3, d4, d5] k on 5) = 0 then (-1 : Int32) else (5 : Int32)))] [])
      refine own_by (fun t_ k_ => XS.iconst X23.here hx rfl (hb hby at_143) k_) ?_
      show own_Go p e below _ T23 (mkF m 144 #[.val (.int p1), .val (.int p2), .val (.int p3), .val (.int p4), .val (.ref b1), .val (.int nv), .val (.int op), .val (.ref r17), .val (.int (own_cq 8 ([d0, d1, d2, d3, d4, d5].take k) (on + 1))), .val (.int (if (own_uq [d0, d1, d2, d3, d4, d5] k on 5) = 0 then (-1 : Int32) else (5 : Int32)))] [(.int (4 : Int32))])
      refine own_by (fun t_ k_ => XS.istore X23.here hx rfl (hb hby at_144) rfl (l' := #[.val (.int p1), .val (.int p2), .val (.int p3), .val (.int p4), .val (.ref b1), .val (.int nv), .val (.int op), .val (.ref r17), .val (.int (own_cq 8 ([d0, d1, d2, d3, d4, d5].take k) (on + 1))), .val (.int (4 : Int32))]) rfl k_) ?_
      rw [if_neg hc140] at J140
      exact J140
  show own_Go p e below _ T22 (mkF m 124 #[.val (.int p1), .val (.int p2), .val (.int p3), .val (.int p4), .val (.ref b1), .val (.int nv), .val (.int op), .val (.ref r17), .val (.int (own_cq 8 ([d0, d1, d2, d3, d4, d5].take k) (on + 1))), .val (.int (-1 : Int32))] [(.int (own_uq [d0, d1, d2, d3, d4, d5] k on 5))])
  refine own_if X22 hx 130 (hb hby at_124) (by decide) (by decide) (fun (hc124 : (own_uq [d0, d1, d2, d3, d4, d5] k on 5) = (0 : Int32)) => ?_) (fun (hc124 : ¬ (own_uq [d0, d1, d2, d3, d4, d5] k on 5) = (0 : Int32)) => ?_)
  · rw [if_pos hc124] at J124; exact J124
  · show own_Go p e below _ T22 (mkF m 127 #[.val (.int p1), .val (.int p2), .val (.int p3), .val (.int p4), .val (.ref b1), .val (.int nv), .val (.int op), .val (.ref r17), .val (.int (own_cq 8 ([d0, d1, d2, d3, d4, d5].take k) (on + 1))), .val (.int (-1 : Int32))] [])
    refine own_by (fun t_ k_ => XS.iconst X22.here hx rfl (hb hby at_127) k_) ?_
    show own_Go p e below _ T22 (mkF m 128 #[.val (.int p1), .val (.int p2), .val (.int p3), .val (.int p4), .val (.ref b1), .val (.int nv), .val (.int op), .val (.ref r17), .val (.int (own_cq 8 ([d0, d1, d2, d3, d4, d5].take k) (on + 1))), .val (.int (-1 : Int32))] [(.int (5 : Int32))])
    refine own_by (fun t_ k_ => XS.istore X22.here hx rfl (hb hby at_128) rfl (l' := #[.val (.int p1), .val (.int p2), .val (.int p3), .val (.int p4), .val (.ref b1), .val (.int nv), .val (.int op), .val (.ref r17), .val (.int (own_cq 8 ([d0, d1, d2, d3, d4, d5].take k) (on + 1))), .val (.int (5 : Int32))]) rfl k_) ?_
    rw [if_neg hc124] at J124
    exact J124
set_option maxRecDepth 65536 in
set_option maxHeartbeats 40000000 in
theorem comes_1 {Post : Tables → Env → Array Value → State → Outcome → State → Prop} (hpost : ∀ tb e args s v u, (limb_1_1.after args s (.returned v) u = true ∧ limb_1_2.after args s (.returned v) u = true ∧ True) → FrameEnd s (.returned v) u (Jvm.fieldLocs frame_1_writes args s ++ Jvm.arrayLocs frame_1_arrays args s ++ Jvm.staticLocs frame_1_statics s) 16 128 → Post tb e args s (.returned v) u) :
    ArmFor flags0 classFile x code maxLocals ret World_1 tables_1 room_1 Calls_1 rest_1 Pre_1 Post := by
  intro l hfl _ _ p e ha hc hk s m args below hf hA hF happ hP
  obtain ⟨hcalls, hrest, hpre⟩ := hP
  obtain ⟨-, -, -, hnamed, -, -, -, hat⟩ := (Spec.applies_iff hf).mp happ
  obtain ⟨hg, hn⟩ := and_e (Cond.before_iff.mp (show (Jvm.Cond.and given_1 narrow_1).before args s = true from hpre))
  obtain ⟨gc, gr0⟩ := and_e hg
  obtain ⟨ga0, gr1⟩ := and_e gr0
  obtain ⟨ga1, gr2⟩ := and_e gr1
  obtain ⟨ga2, gr3⟩ := and_e gr2
  obtain ⟨w0, w1, w2, w3, rfl⟩ : ∃ w0 w1 w2 w3 : Value, args = #[w0, w1, w2, w3] := by
    have hs : args.size = 4 := by simpa [Cond.value, given_1] using gc
    obtain ⟨L⟩ := args
    match L, hs with
    | [w0, w1, w2, w3], _ => exact ⟨w0, w1, w2, w3, rfl⟩
  have hw := fun d (hd : d ∈ tables_1) => atoms_spec (ws := Jvm.Cond.code x code maxLocals ret :: tables_1) hat d (List.mem_cons_of_mem _ hd)
  have hfit : Fit s := fun {y c} hc i hi => by
    obtain ⟨ha, rfl⟩ := Array.getElem?_eq_some_iff.mp hc
    have q := List.all_eq_true.mp ((Array.all_eq_true_iff_forall_mem.mp hF) _ (Array.getElem_mem ha)) i (List.mem_range.mpr hi)
    simpa [Array.getElem?_eq_getElem hi] using q
  obtain ⟨i0, ei0⟩ := is_v ga0
  obtain rfl : w0 = (.int i0) := Option.some.inj ei0
  obtain ⟨i1, ei1⟩ := is_v ga1
  obtain rfl : w1 = (.int i1) := Option.some.inj ei1
  obtain ⟨i2, ei2⟩ := is_v ga2
  obtain rfl : w2 = (.int i2) := Option.some.inj ei2
  obtain ⟨i3, ei3⟩ := is_v gr3
  obtain rfl : w3 = (.int i3) := Option.some.inj ei3
  obtain ⟨hsets, hown0⟩ := atoms_of _ (rest_1_c_eq ▸ (show rest_1_c.before _ s = true from hrest))
  obtain ⟨cs, ecs⟩ := is_v (Cond.before_iff.mp (hsets _ (List.mem_of_getElem? (i := 1) rfl)))
  have S_cs : Sta s s.heap "java/lang/String" "COMPACT_STRINGS" "Z" (.int cs) := Sta.start ecs (Or.inl (hsets _ (List.mem_of_getElem? (i := 0) rfl)))
  have hcs : ¬ cs = 0 := own_notI ecs (Cond.before_iff.mp (hsets _ (List.mem_of_getElem? (i := 2) rfl)))
  obtain ⟨fm, efm, hfm⟩ := isR_v (Cond.before_iff.mp (hsets _ (List.mem_of_getElem? (i := 8) rfl)))
  have S_fm : Sta s s.heap "jdk/internal/util/Preconditions" "SIOOBE_FORMATTER" "Ljava/util/function/BiFunction;" fm := Sta.start efm (Or.inl (hsets _ (List.mem_of_getElem? (i := 7) rfl)))
  obtain ⟨n, o, h1, h2, h3, _, L, rfl, ⟨rfl, N⟩, hq⟩ := rm0 l s _ hw tables_1 i0 i1 i2 i3 cs fm s.heap s.heap.size (Nat.le_refl _) S_cs hcs S_fm hfm p e ha hc hk s m _ below hf ((Spec.applies_iff_loose hf).mp happ).1 ⟨rfl, State.Warmed39.refl s, rfl⟩ trivial
  refine ⟨n, _, h1, h2, h3, hpost _ _ _ _ _ _ ⟨Cond.after_iff.mpr rfl, Cond.after_iff.mpr (eq_i res_at (Term.int_eval (1)) rfl), trivial⟩ ⟨hq.1, hq.2.1, (hq.2.2.sift fun y hy => Or.inr (N y hy)).mono (by decide) (by decide)⟩⟩
theorem main_1_1 : Claimed_1_1 := comes_1 fun _ _ _ _ _ _ h hF => ⟨h.1, hF⟩
theorem main_1_2 : Claimed_1_2 := comes_1 fun _ _ _ _ _ _ h hF => ⟨h.2.1, hF⟩
end Jvm.Pilot.@@N@@
namespace Jvm.Pilot.@@N@@
open Jvm Jvm.ClassFile Sem Op Lib Jvm.Free Jvm.Stand Jvm.Pilot.@@N@@.Jvm.D
/-! MADE BY PROGRAM (witnessworld.py) out of the Statement's table words and the real class files: 24 classes; the members and pool entries that the words name. The judged class is class 1, her method 1. -/
namespace start1
open Jvm.ClassFile
def u (s : String) : CpInfo := .utf8 (stringToUtf16 s)
/-- a pool by its gaps: so many unusable entries, then the entry; so many at the end -/
def gap : Nat → List CpInfo → List CpInfo
  | 0, r => r
  | n + 1, r => .unusable :: gap n r
def poolList (es : List (Nat × CpInfo)) (last : Nat) : List CpInfo := es.foldr (fun e r => gap e.1 (e.2 :: r)) (gap last [])
def pool (es : List (Nat × CpInfo)) (last : Nat) : Array CpInfo := ⟨poolList es last⟩
def fileOf (pool : Array CpInfo) (this : Nat) (attrs : Array Attribute := #[]) (ms : Array MethodInfo := #[]) (fl : Nat := 33) (sup : Nat := 0) (ifs : Array Nat := #[]) (fds : Array FieldInfo := #[]) : ClassFile where
  minorVersion := 0
  majorVersion := 65
  constantPool := pool
  accessFlags := fl
  thisClass := this
  superClass := sup
  interfaces := ifs
  fields := fds
  methods := ms
  attributes := attrs
def plain (name : String) (sup : Option ClassId) : Class where
  name := name
  kind := .ordinary
  loader := none
  accessFlags := 33
  super := sup
  interfaces := #[]
  cf := none
  fields := #[]
  methods := #[]
  instanceTypes := #[]
  staticTypes := #[]
  resolved := #[]
  callSites := []
  init := .initialized
  statics := none
  mirror := none

def pool0 : Array CpInfo := pool [(5, u "<init>"), (0, u "()V"), (1, .class_ 10), (1, u "java/lang/Object")] 113

def k0c0 : Code := { maxStack := 0, maxLocals := 1, code := object_method_1_code, exceptionTable := #[], attributes := #[] }
def k0m0 : Method := { name := "<init>", desc := "()V", sig := { parameters := [], returnType := none }, accessFlags := 1, code := some k0c0 }
/-- java/lang/Object -/
def k0 : Class := { plain "java/lang/Object" none with
  accessFlags := 33
  interfaces := #[]
  cf := some (fileOf pool0 8 #[] #[{ accessFlags := 1, nameIndex := 5, descriptorIndex := 6, attributes := #[] }] 33 0 #[] #[])
  fields := #[]
  methods := #[k0m0]
  instanceTypes := #[]
  staticTypes := #[]
  resolved := Array.replicate 124 none
  statics := none }

def pool1 : Array CpInfo := pool [(2, .class_ 4), (1, u "java/lang/Object"), (0, u "<init>"), (0, u "()V"), (0, .methodref 8 9), (0, .class_ 10), (0, .nameAndType 11 12), (0, u "com/example/amendment_ledger/amendmentledger/ledger/TextClosingQuotePinLaw"), (0, u "dec"), (0, u "(I)C"), (0, .integer 2147483647), (0, .methodref 8 15), (0, .nameAndType 16 17), (0, u "line"), (0, u "([CI)Ljava/lang/String;"), (0, .methodref 19 20), (0, .class_ 21), (0, .nameAndType 22 23), (0, u "com/example/amendment_ledger/amendmentledger/ledger/Value$Text"), (0, u "closingQuote"), (0, u "(Ljava/lang/String;I)I"), (0, .methodref 8 25), (0, .nameAndType 26 27), (0, u "unescapedQuote"), (0, u "([CIII)Z"), (0, .class_ 29), (0, u "java/lang/String"), (0, .methodref 28 31), (0, .nameAndType 5 32), (0, u "([C)V"), (0, .methodref 8 34), (0, .nameAndType 35 36), (0, u "backslashesBefore"), (0, u "([CII)I"), (2, u "law"), (0, u "(IIII)Z")] 9

def k1m0 : Method := { name := "<init>", desc := "()V", sig := { parameters := [], returnType := none }, accessFlags := 2, code := none }
def k1c1 : Code := { maxStack := 4, maxLocals := 10, code := code, exceptionTable := #[], attributes := #[] }
def k1m1 : Method := { name := "law", desc := "(IIII)Z", sig := { parameters := [.int, .int, .int, .int], returnType := some .boolean }, accessFlags := 9, code := some k1c1 }
def k1c2 : Code := { maxStack := 2, maxLocals := 2, code := method_3_code, exceptionTable := #[], attributes := #[] }
def k1m2 : Method := { name := "dec", desc := "(I)C", sig := { parameters := [.int], returnType := some .char }, accessFlags := 10, code := some k1c2 }
def k1c3 : Code := { maxStack := 7, maxLocals := 2, code := method_4_code, exceptionTable := #[], attributes := #[] }
def k1m3 : Method := { name := "line", desc := "([CI)Ljava/lang/String;", sig := { parameters := [(.array .char), .int], returnType := some (.object "java/lang/String") }, accessFlags := 10, code := some k1c3 }
def k1c4 : Code := { maxStack := 3, maxLocals := 4, code := method_5_code, exceptionTable := #[], attributes := #[] }
def k1m4 : Method := { name := "unescapedQuote", desc := "([CIII)Z", sig := { parameters := [(.array .char), .int, .int, .int], returnType := some .boolean }, accessFlags := 10, code := some k1c4 }
def k1c5 : Code := { maxStack := 2, maxLocals := 6, code := method_6_code, exceptionTable := #[], attributes := #[] }
def k1m5 : Method := { name := "backslashesBefore", desc := "([CII)I", sig := { parameters := [(.array .char), .int, .int], returnType := some .int }, accessFlags := 10, code := some k1c5 }
/-- com/example/amendment_ledger/amendmentledger/ledger/TextClosingQuotePinLaw -/
def k1 : Class := { plain "com/example/amendment_ledger/amendmentledger/ledger/TextClosingQuotePinLaw" (some 0) with
  accessFlags := 49
  interfaces := #[]
  cf := some (fileOf pool1 8 #[] #[{ accessFlags := 2, nameIndex := 5, descriptorIndex := 6, attributes := #[] }, { accessFlags := 9, nameIndex := 39, descriptorIndex := 40, attributes := #[] }, { accessFlags := 10, nameIndex := 11, descriptorIndex := 12, attributes := #[] }, { accessFlags := 10, nameIndex := 16, descriptorIndex := 17, attributes := #[] }, { accessFlags := 10, nameIndex := 26, descriptorIndex := 27, attributes := #[] }, { accessFlags := 10, nameIndex := 35, descriptorIndex := 36, attributes := #[] }] 49 2 #[] #[])
  fields := #[]
  methods := #[k1m0, k1m1, k1m2, k1m3, k1m4, k1m5]
  instanceTypes := #[]
  staticTypes := #[]
  resolved := Array.replicate 50 none
  statics := none }

def pool2 : Array CpInfo := pool [(1, .class_ 2), (0, u "java/io/Serializable"), (0, .class_ 4), (0, u "java/lang/Object")] 2

/-- java/io/Serializable -/
def k2 : Class := { plain "java/io/Serializable" (some 0) with
  accessFlags := 1537
  interfaces := #[]
  cf := some (fileOf pool2 1 #[] #[] 1537 3 #[] #[])
  fields := #[]
  methods := #[]
  instanceTypes := #[]
  staticTypes := #[]
  resolved := Array.replicate 7 none
  statics := none }

def pool3 : Array CpInfo := pool [(1, .class_ 2), (0, u "java/lang/Comparable"), (0, .class_ 4), (0, u "java/lang/Object")] 7

/-- java/lang/Comparable -/
def k3 : Class := { plain "java/lang/Comparable" (some 0) with
  accessFlags := 1537
  interfaces := #[]
  cf := some (fileOf pool3 1 #[] #[] 1537 3 #[] #[])
  fields := #[]
  methods := #[]
  instanceTypes := #[]
  staticTypes := #[]
  resolved := Array.replicate 12 none
  statics := none }

def pool4 : Array CpInfo := pool [(2, .class_ 4), (1, u "java/lang/CharSequence"), (42, .class_ 48), (0, u "java/lang/CharSequence$1CodePointIterator"), (10, .class_ 60), (0, u "java/lang/CharSequence$1CharIterator"), (5, .class_ 67), (0, u "java/lang/Object")] 63

/-- java/lang/CharSequence -/
def k4 : Class := { plain "java/lang/CharSequence" (some 0) with
  accessFlags := 1537
  interfaces := #[]
  cf := some (fileOf pool4 2 #[.nestMembers #[47, 59]] #[] 1537 66 #[] #[])
  fields := #[]
  methods := #[]
  instanceTypes := #[]
  staticTypes := #[]
  resolved := Array.replicate 131 none
  statics := none }

def pool5 : Array CpInfo := pool [(1, .class_ 2), (0, u "java/lang/constant/Constable"), (0, .class_ 4), (0, u "java/lang/Object")] 6

/-- java/lang/constant/Constable -/
def k5 : Class := { plain "java/lang/constant/Constable" (some 0) with
  accessFlags := 1537
  interfaces := #[]
  cf := some (fileOf pool5 1 #[] #[] 1537 3 #[] #[])
  fields := #[]
  methods := #[]
  instanceTypes := #[]
  staticTypes := #[]
  resolved := Array.replicate 11 none
  statics := none }

def pool6 : Array CpInfo := pool [(1, .class_ 2), (0, u "java/lang/constant/ConstantDesc"), (0, .class_ 4), (0, u "java/lang/Object")] 32

/-- java/lang/constant/ConstantDesc -/
def k6 : Class := { plain "java/lang/constant/ConstantDesc" (some 0) with
  accessFlags := 1537
  interfaces := #[]
  cf := some (fileOf pool6 1 #[] #[] 1537 3 #[] #[])
  fields := #[]
  methods := #[]
  instanceTypes := #[]
  staticTypes := #[]
  resolved := Array.replicate 37 none
  statics := none }

def pool7 : Array CpInfo := pool [(1, .methodref 2 3), (0, .class_ 4), (0, .nameAndType 5 6), (0, u "java/lang/Object"), (0, u "<init>"), (0, u "()V"), (2, .fieldref 10 11), (0, .class_ 12), (0, .nameAndType 13 14), (0, u "java/lang/String"), (0, u "value"), (0, u "[B"), (0, .fieldref 10 16), (0, .nameAndType 17 18), (0, u "coder"), (0, u "B"), (2, u "hash"), (0, u "I"), (2, u "hashIsZero"), (0, u "Z"), (0, .methodref 10 28), (0, .nameAndType 5 29), (0, u "([CIILjava/lang/Void;)V"), (8, .fieldref 10 39), (0, .nameAndType 40 26), (0, u "COMPACT_STRINGS"), (1, .class_ 44), (1, u "java/lang/StringUTF16"), (0, u "compress"), (1, .methodref 42 48), (0, .nameAndType 49 50), (0, u "coderFromArrayLen"), (0, u "([BI)B"), (56, .class_ 109), (1, u "java/lang/StringLatin1"), (32, u "()Z"), (34, .methodref 42 178), (0, .nameAndType 45 179), (0, u "([CII)[B"), (154, u "()I"), (0, .methodref 10 336), (0, .nameAndType 17 337), (0, u "()B"), (25, u "([BI)C"), (27, u "(II)V"), (35, u "(I)C"), (64, .methodref 10 493), (0, .nameAndType 494 142), (0, u "isLatin1"), (0, .methodref 107 496), (0, .nameAndType 497 363), (0, u "charAt"), (3, u "checkIndex"), (5, u "length"), (67, .class_ 576), (0, u "java/lang/CharSequence"), (22, u "CASE_INSENSITIVE_ORDER"), (0, u "Ljava/util/Comparator;"), (409, u "([C)V"), (42, .fieldref 1054 1055), (0, .class_ 1056), (0, .nameAndType 1057 1058), (0, u "jdk/internal/util/Preconditions"), (0, u "SIOOBE_FORMATTER"), (0, u "Ljava/util/function/BiFunction;"), (0, .methodref 1054 1060), (0, .nameAndType 501 1061), (0, u "(IILjava/util/function/BiFunction;)I"), (39, u "serialPersistentFields"), (0, u "[Ljava/io/ObjectStreamField;"), (0, .class_ 1104), (0, u "java/lang/String$CaseInsensitiveComparator"), (1, .class_ 1107), (0, u "java/io/Serializable"), (0, .class_ 1109), (0, u "java/lang/Comparable"), (0, .class_ 1111), (0, u "java/lang/constant/Constable"), (0, .class_ 1113), (0, u "java/lang/constant/ConstantDesc"), (2, u "serialVersionUID"), (0, u "J"), (3, u "REPL"), (0, u "C"), (2, u "LATIN1"), (1, u "UTF16")] 323

def k7m0 : Method := { name := "<init>", desc := "()V", sig := { parameters := [], returnType := none }, accessFlags := 1, code := none }
def k7c1 : Code := { maxStack := 5, maxLocals := 2, code := jdk_42_method_3_code, exceptionTable := #[], attributes := #[] }
def k7m1 : Method := { name := "<init>", desc := "([C)V", sig := { parameters := [(.array .char)], returnType := none }, accessFlags := 1, code := some k7c1 }
def k7c2 : Code := { maxStack := 2, maxLocals := 1, code := jdk_42_method_54_code, exceptionTable := #[], attributes := #[] }
def k7m2 : Method := { name := "length", desc := "()I", sig := { parameters := [], returnType := some .int }, accessFlags := 1, code := some k7c2 }
def k7c3 : Code := { maxStack := 2, maxLocals := 2, code := jdk_42_method_56_code, exceptionTable := #[], attributes := #[] }
def k7m3 : Method := { name := "charAt", desc := "(I)C", sig := { parameters := [.int], returnType := some .char }, accessFlags := 1, code := some k7c3 }
def k7c4 : Code := { maxStack := 4, maxLocals := 6, code := jdk_42_method_149_code, exceptionTable := #[], attributes := #[] }
def k7m4 : Method := { name := "<init>", desc := "([CIILjava/lang/Void;)V", sig := { parameters := [(.array .char), .int, .int, (.object "java/lang/Void")], returnType := none }, accessFlags := 2, code := some k7c4 }
def k7c5 : Code := { maxStack := 1, maxLocals := 1, code := jdk_42_method_152_code, exceptionTable := #[], attributes := #[] }
def k7m5 : Method := { name := "coder", desc := "()B", sig := { parameters := [], returnType := some .byte }, accessFlags := 0, code := some k7c5 }
def k7c6 : Code := { maxStack := 1, maxLocals := 1, code := jdk_42_method_154_code, exceptionTable := #[], attributes := #[] }
def k7m6 : Method := { name := "isLatin1", desc := "()Z", sig := { parameters := [], returnType := some .boolean }, accessFlags := 0, code := some k7c6 }
def k7c7 : Code := { maxStack := 3, maxLocals := 2, code := jdk_42_method_155_code, exceptionTable := #[], attributes := #[] }
def k7m7 : Method := { name := "checkIndex", desc := "(II)V", sig := { parameters := [.int, .int], returnType := none }, accessFlags := 8, code := some k7c7 }
/-- java/lang/String -/
def k7 : Class := { plain "java/lang/String" (some 0) with
  accessFlags := 49
  interfaces := #[2, 3, 4, 5, 6]
  cf := some (fileOf pool7 10 #[.nestMembers #[1103]] #[{ accessFlags := 1, nameIndex := 5, descriptorIndex := 6, attributes := #[] }, { accessFlags := 1, nameIndex := 5, descriptorIndex := 1010, attributes := #[] }, { accessFlags := 1, nameIndex := 507, descriptorIndex := 334, attributes := #[] }, { accessFlags := 1, nameIndex := 497, descriptorIndex := 427, attributes := #[] }, { accessFlags := 2, nameIndex := 5, descriptorIndex := 29, attributes := #[] }, { accessFlags := 0, nameIndex := 17, descriptorIndex := 337, attributes := #[] }, { accessFlags := 0, nameIndex := 494, descriptorIndex := 142, attributes := #[] }, { accessFlags := 8, nameIndex := 501, descriptorIndex := 391, attributes := #[] }] 49 2 #[1106, 1108, 575, 1110, 1112] #[{ accessFlags := 18, nameIndex := 13, descriptorIndex := 14, attributes := #[] }, { accessFlags := 18, nameIndex := 17, descriptorIndex := 18, attributes := #[] }, { accessFlags := 2, nameIndex := 21, descriptorIndex := 22, attributes := #[] }, { accessFlags := 2, nameIndex := 25, descriptorIndex := 26, attributes := #[] }, { accessFlags := 26, nameIndex := 1116, descriptorIndex := 1117, attributes := #[] }, { accessFlags := 24, nameIndex := 40, descriptorIndex := 26, attributes := #[] }, { accessFlags := 26, nameIndex := 1101, descriptorIndex := 1102, attributes := #[] }, { accessFlags := 26, nameIndex := 1121, descriptorIndex := 1122, attributes := #[] }, { accessFlags := 25, nameIndex := 599, descriptorIndex := 600, attributes := #[] }, { accessFlags := 24, nameIndex := 1125, descriptorIndex := 18, attributes := #[] }, { accessFlags := 24, nameIndex := 1127, descriptorIndex := 18, attributes := #[] }])
  fields := #[{ name := "value", type := (.array .byte), accessFlags := 18, slot := 0, constantValue := 0 }, { name := "coder", type := .byte, accessFlags := 18, slot := 1, constantValue := 0 }, { name := "hash", type := .int, accessFlags := 2, slot := 2, constantValue := 0 }, { name := "hashIsZero", type := .boolean, accessFlags := 2, slot := 3, constantValue := 0 }, { name := "serialVersionUID", type := .long, accessFlags := 26, slot := 0, constantValue := 0 }, { name := "COMPACT_STRINGS", type := .boolean, accessFlags := 24, slot := 1, constantValue := 0 }, { name := "serialPersistentFields", type := (.array (.object "java/io/ObjectStreamField")), accessFlags := 26, slot := 2, constantValue := 0 }, { name := "REPL", type := .char, accessFlags := 26, slot := 3, constantValue := 0 }, { name := "CASE_INSENSITIVE_ORDER", type := (.object "java/util/Comparator"), accessFlags := 25, slot := 4, constantValue := 0 }, { name := "LATIN1", type := .byte, accessFlags := 24, slot := 5, constantValue := 0 }, { name := "UTF16", type := .byte, accessFlags := 24, slot := 6, constantValue := 0 }]
  methods := #[k7m0, k7m1, k7m2, k7m3, k7m4, k7m5, k7m6, k7m7]
  instanceTypes := #[(.array .byte), .byte, .int, .boolean]
  staticTypes := #[.long, .boolean, (.array (.object "java/io/ObjectStreamField")), .char, (.object "java/util/Comparator"), .byte, .byte]
  resolved := Array.replicate 1451 none
  statics := some 0 }

def pool8 : Array CpInfo := pool [(6, .class_ 8), (1, u "java/lang/Object"), (0, u "<init>"), (0, u "()V"), (1, .class_ 14), (1, u "java/lang/StringUTF16"), (31, u "$assertionsDisabled"), (0, u "Z"), (13, u "HI_BYTE_SHIFT"), (0, u "I"), (2, u "LO_BYTE_SHIFT"), (49, .methodref 12 116), (0, .nameAndType 117 118), (0, u "compress"), (0, u "([CI[BII)I"), (3, u "([CII)[B"), (138, u "coderFromArrayLen"), (0, u "([BI)B"), (106, .class_ 371), (1, u "java/lang/StringUTF16$LinesSpliterator"), (58, u "MAX_LENGTH"), (196, .class_ 628), (0, u "java/lang/StringUTF16$CodePointsSpliterator"), (0, .class_ 630), (0, u "java/lang/StringUTF16$CharsSpliterator")] 4

def k8m0 : Method := { name := "<init>", desc := "()V", sig := { parameters := [], returnType := none }, accessFlags := 0, code := none }
def k8c1 : Code := { maxStack := 2, maxLocals := 2, code := jdk_52_method_15_code, exceptionTable := #[], attributes := #[] }
def k8m1 : Method := { name := "coderFromArrayLen", desc := "([BI)B", sig := { parameters := [(.array .byte), .int], returnType := some .byte }, accessFlags := 8, code := some k8c1 }
def k8c2 : Code := { maxStack := 5, maxLocals := 6, code := jdk_52_method_16_code, exceptionTable := #[], attributes := #[] }
def k8m2 : Method := { name := "compress", desc := "([CII)[B", sig := { parameters := [(.array .char), .int, .int], returnType := some (.array .byte) }, accessFlags := 9, code := some k8c2 }
def k8c3 : Code := { maxStack := 3, maxLocals := 7, code := jdk_52_method_21_code, exceptionTable := #[], attributes := #[] }
def k8m3 : Method := { name := "compress", desc := "([CI[BII)I", sig := { parameters := [(.array .char), .int, (.array .byte), .int, .int], returnType := some .int }, accessFlags := 9, code := some k8c3 }
/-- java/lang/StringUTF16 -/
def k8 : Class := { plain "java/lang/StringUTF16" (some 0) with
  accessFlags := 48
  interfaces := #[]
  cf := some (fileOf pool8 12 #[.nestMembers #[627, 629, 369]] #[{ accessFlags := 0, nameIndex := 9, descriptorIndex := 10, attributes := #[] }, { accessFlags := 8, nameIndex := 261, descriptorIndex := 262, attributes := #[] }, { accessFlags := 9, nameIndex := 117, descriptorIndex := 122, attributes := #[] }, { accessFlags := 9, nameIndex := 117, descriptorIndex := 118, attributes := #[] }] 48 6 #[] #[{ accessFlags := 26, nameIndex := 61, descriptorIndex := 62, attributes := #[] }, { accessFlags := 26, nameIndex := 65, descriptorIndex := 62, attributes := #[] }, { accessFlags := 24, nameIndex := 430, descriptorIndex := 62, attributes := #[] }, { accessFlags := 4120, nameIndex := 46, descriptorIndex := 47, attributes := #[] }])
  fields := #[{ name := "HI_BYTE_SHIFT", type := .int, accessFlags := 26, slot := 0, constantValue := 0 }, { name := "LO_BYTE_SHIFT", type := .int, accessFlags := 26, slot := 1, constantValue := 0 }, { name := "MAX_LENGTH", type := .int, accessFlags := 24, slot := 2, constantValue := 0 }, { name := "$assertionsDisabled", type := .boolean, accessFlags := 4120, slot := 3, constantValue := 0 }]
  methods := #[k8m0, k8m1, k8m2, k8m3]
  instanceTypes := #[]
  staticTypes := #[.int, .int, .int, .boolean]
  resolved := Array.replicate 635 none
  statics := none }

def pool9 : Array CpInfo := pool [(2, .class_ 4), (1, u "java/lang/Object"), (0, u "<init>"), (0, u "()V"), (0, .class_ 8), (0, u "java/lang/Record")] 13

def k9m0 : Method := { name := "<init>", desc := "()V", sig := { parameters := [], returnType := none }, accessFlags := 4, code := none }
/-- java/lang/Record -/
def k9 : Class := { plain "java/lang/Record" (some 0) with
  accessFlags := 1057
  interfaces := #[]
  cf := some (fileOf pool9 7 #[] #[{ accessFlags := 4, nameIndex := 5, descriptorIndex := 6, attributes := #[] }] 1057 2 #[] #[])
  fields := #[]
  methods := #[k9m0]
  instanceTypes := #[]
  staticTypes := #[]
  resolved := Array.replicate 22 none
  statics := none }

def pool10 : Array CpInfo := pool [(7, .class_ 8), (0, u "com/example/amendment_ledger/amendmentledger/ledger/Formula"), (0, .class_ 10), (0, u "java/lang/Object")] 12

/-- com/example/amendment_ledger/amendmentledger/ledger/Formula -/
def k10 : Class := { plain "com/example/amendment_ledger/amendmentledger/ledger/Formula" (some 0) with
  accessFlags := 1537
  interfaces := #[]
  cf := some (fileOf pool10 7 #[] #[] 1537 9 #[] #[])
  fields := #[]
  methods := #[]
  instanceTypes := #[]
  staticTypes := #[]
  resolved := Array.replicate 23 none
  statics := none }

def pool11 : Array CpInfo := pool [(7, .class_ 8), (0, u "com/example/amendment_ledger/amendmentledger/ledger/Expression"), (0, .class_ 10), (0, u "java/lang/Object"), (0, .class_ 12), (0, u "com/example/amendment_ledger/amendmentledger/ledger/Formula"), (7, .class_ 21), (0, u "com/example/amendment_ledger/amendmentledger/ledger/Expression$Case"), (0, .class_ 23), (0, u "com/example/amendment_ledger/amendmentledger/ledger/Expression$Case$Branch"), (0, .class_ 25), (0, u "com/example/amendment_ledger/amendmentledger/ledger/Expression$Comparison"), (0, .class_ 27), (0, u "com/example/amendment_ledger/amendmentledger/ledger/Expression$Relation"), (0, .class_ 29), (0, u "com/example/amendment_ledger/amendmentledger/ledger/Expression$Call"), (0, .class_ 31), (0, u "com/example/amendment_ledger/amendmentledger/ledger/Expression$Function"), (0, .class_ 33), (0, u "com/example/amendment_ledger/amendmentledger/ledger/Expression$Function$5"), (0, .class_ 35), (0, u "com/example/amendment_ledger/amendmentledger/ledger/Expression$Function$4"), (0, .class_ 37), (0, u "com/example/amendment_ledger/amendmentledger/ledger/Expression$Function$3"), (0, .class_ 39), (0, u "com/example/amendment_ledger/amendmentledger/ledger/Expression$Function$2"), (0, .class_ 41), (0, u "com/example/amendment_ledger/amendmentledger/ledger/Expression$Function$1"), (0, .class_ 43), (0, u "com/example/amendment_ledger/amendmentledger/ledger/Expression$Operation"), (0, .class_ 45), (0, u "com/example/amendment_ledger/amendmentledger/ledger/Expression$Operator"), (0, .class_ 47), (0, u "com/example/amendment_ledger/amendmentledger/ledger/Expression$Negation"), (0, .class_ 49), (0, u "com/example/amendment_ledger/amendmentledger/ledger/Expression$Name"), (0, .class_ 51), (0, u "com/example/amendment_ledger/amendmentledger/ledger/Expression$Names")] 15

/-- com/example/amendment_ledger/amendmentledger/ledger/Expression -/
def k11 : Class := { plain "com/example/amendment_ledger/amendmentledger/ledger/Expression" (some 0) with
  accessFlags := 1537
  interfaces := #[10]
  cf := some (fileOf pool11 7 #[.nestMembers #[20, 22, 24, 26, 28, 30, 32, 34, 36, 38, 40, 42, 44, 46, 48, 50]] #[] 1537 9 #[11] #[])
  fields := #[]
  methods := #[]
  instanceTypes := #[]
  staticTypes := #[]
  resolved := Array.replicate 67 none
  statics := none }

def pool12 : Array CpInfo := pool [(10, .class_ 12), (1, u "com/example/amendment_ledger/amendmentledger/ledger/Value$Text"), (8, .class_ 23), (1, u "com/example/amendment_ledger/amendmentledger/ledger/Value$Percent"), (14, .class_ 40), (1, u "com/example/amendment_ledger/amendmentledger/ledger/Value$Date"), (10, .class_ 53), (1, u "com/example/amendment_ledger/amendmentledger/ledger/Value$Number"), (15, .class_ 70), (0, u "com/example/amendment_ledger/amendmentledger/ledger/Value"), (0, .class_ 72), (0, u "java/lang/Object"), (0, .class_ 74), (0, u "com/example/amendment_ledger/amendmentledger/ledger/Expression")] 32

/-- com/example/amendment_ledger/amendmentledger/ledger/Value -/
def k12 : Class := { plain "com/example/amendment_ledger/amendmentledger/ledger/Value" (some 0) with
  accessFlags := 1537
  interfaces := #[11]
  cf := some (fileOf pool12 69 #[.nestMembers #[10, 38, 21, 51]] #[] 1537 71 #[73] #[])
  fields := #[]
  methods := #[]
  instanceTypes := #[]
  staticTypes := #[]
  resolved := Array.replicate 107 none
  statics := none }

def pool13 : Array CpInfo := pool [(2, .class_ 4), (1, u "java/lang/Record"), (3, u "value"), (7, .class_ 18), (1, u "com/example/amendment_ledger/amendmentledger/ledger/Value$Text"), (0, u "Ljava/lang/String;"), (3, .class_ 25), (1, u "java/lang/String"), (13, u "closingQuote"), (0, u "(Ljava/lang/String;I)I"), (1, .methodref 23 43), (0, .nameAndType 44 45), (0, u "length"), (0, u "()I"), (4, .methodref 23 51), (0, .nameAndType 52 53), (0, u "charAt"), (0, u "(I)C"), (29, .class_ 84), (0, u "com/example/amendment_ledger/amendmentledger/ledger/Value")] 43

def k13c0 : Code := { maxStack := 2, maxLocals := 4, code := prog_58_method_4_code, exceptionTable := #[], attributes := #[] }
def k13m0 : Method := { name := "closingQuote", desc := "(Ljava/lang/String;I)I", sig := { parameters := [(.object "java/lang/String"), .int], returnType := some .int }, accessFlags := 8, code := some k13c0 }
/-- com/example/amendment_ledger/amendmentledger/ledger/Value$Text -/
def k13 : Class := { plain "com/example/amendment_ledger/amendmentledger/ledger/Value$Text" (some 9) with
  accessFlags := 49
  interfaces := #[12]
  cf := some (fileOf pool13 16 #[.nestHost 83] #[{ accessFlags := 8, nameIndex := 39, descriptorIndex := 40, attributes := #[] }] 49 2 #[83] #[{ accessFlags := 18, nameIndex := 8, descriptorIndex := 19, attributes := #[] }])
  fields := #[{ name := "value", type := (.object "java/lang/String"), accessFlags := 18, slot := 0, constantValue := 0 }]
  methods := #[k13m0]
  instanceTypes := #[(.object "java/lang/String")]
  staticTypes := #[]
  resolved := Array.replicate 128 none
  statics := none }

def pool14 : Array CpInfo := pool [(1, .class_ 2), (0, u "java/lang/String"), (1, .class_ 6), (1, u "java/lang/Object"), (0, u "<init>"), (0, u "()V"), (0, .methodref 1 10), (0, .nameAndType 11 12), (0, u "checkIndex"), (0, u "(II)V"), (1, .class_ 16), (1, u "java/lang/StringLatin1"), (36, u "([BI)C"), (67, u "$assertionsDisabled"), (0, u "Z"), (98, .class_ 223), (1, u "java/lang/StringLatin1$LinesSpliterator"), (28, u "charAt"), (137, .class_ 391), (0, u "java/lang/StringLatin1$CharsSpliterator")] 3

def k14m0 : Method := { name := "<init>", desc := "()V", sig := { parameters := [], returnType := none }, accessFlags := 0, code := none }
def k14c1 : Code := { maxStack := 2, maxLocals := 2, code := jdk_43_method_2_code, exceptionTable := #[], attributes := #[] }
def k14m1 : Method := { name := "charAt", desc := "([BI)C", sig := { parameters := [(.array .byte), .int], returnType := some .char }, accessFlags := 9, code := some k14c1 }
/-- java/lang/StringLatin1 -/
def k14 : Class := { plain "java/lang/StringLatin1" (some 0) with
  accessFlags := 48
  interfaces := #[]
  cf := some (fileOf pool14 14 #[.nestMembers #[390, 221]] #[{ accessFlags := 0, nameIndex := 7, descriptorIndex := 8, attributes := #[] }, { accessFlags := 9, nameIndex := 252, descriptorIndex := 53, attributes := #[] }] 48 4 #[] #[{ accessFlags := 4120, nameIndex := 121, descriptorIndex := 122, attributes := #[] }])
  fields := #[{ name := "$assertionsDisabled", type := .boolean, accessFlags := 4120, slot := 0, constantValue := 0 }]
  methods := #[k14m0, k14m1]
  instanceTypes := #[]
  staticTypes := #[.boolean]
  resolved := Array.replicate 395 none
  statics := none }

def pool15 : Array CpInfo := pool [(2, .class_ 4), (1, u "java/lang/Object"), (0, u "<init>"), (0, u "()V"), (17, .class_ 26), (1, u "jdk/internal/util/Preconditions"), (6, u "checkIndex"), (21, .class_ 56), (0, u "jdk/internal/util/Preconditions$4"), (57, .class_ 115), (0, u "jdk/internal/util/Preconditions$1"), (7, u "SIOOBE_FORMATTER"), (0, u "Ljava/util/function/BiFunction;"), (0, .class_ 126), (0, u "jdk/internal/util/Preconditions$2"), (3, u "AIOOBE_FORMATTER"), (0, .class_ 132), (0, u "jdk/internal/util/Preconditions$3"), (3, u "IOOBE_FORMATTER"), (41, u "(IILjava/util/function/BiFunction;)I")] 15

def k15m0 : Method := { name := "<init>", desc := "()V", sig := { parameters := [], returnType := none }, accessFlags := 1, code := none }
def k15c1 : Code := { maxStack := 3, maxLocals := 3, code := jdk_41_method_11_code, exceptionTable := #[], attributes := #[] }
def k15m1 : Method := { name := "checkIndex", desc := "(IILjava/util/function/BiFunction;)I", sig := { parameters := [.int, .int, (.object "java/util/function/BiFunction")], returnType := some .int }, accessFlags := 9, code := some k15c1 }
/-- jdk/internal/util/Preconditions -/
def k15 : Class := { plain "jdk/internal/util/Preconditions" (some 0) with
  accessFlags := 33
  interfaces := #[]
  cf := some (fileOf pool15 24 #[.nestMembers #[55, 131, 125, 114]] #[{ accessFlags := 1, nameIndex := 5, descriptorIndex := 6, attributes := #[] }, { accessFlags := 9, nameIndex := 33, descriptorIndex := 178, attributes := #[] }] 33 2 #[] #[{ accessFlags := 25, nameIndex := 123, descriptorIndex := 124, attributes := #[] }, { accessFlags := 25, nameIndex := 130, descriptorIndex := 124, attributes := #[] }, { accessFlags := 25, nameIndex := 136, descriptorIndex := 124, attributes := #[] }])
  fields := #[{ name := "SIOOBE_FORMATTER", type := (.object "java/util/function/BiFunction"), accessFlags := 25, slot := 0, constantValue := 0 }, { name := "AIOOBE_FORMATTER", type := (.object "java/util/function/BiFunction"), accessFlags := 25, slot := 1, constantValue := 0 }, { name := "IOOBE_FORMATTER", type := (.object "java/util/function/BiFunction"), accessFlags := 25, slot := 2, constantValue := 0 }]
  methods := #[k15m0, k15m1]
  instanceTypes := #[]
  staticTypes := #[(.object "java/util/function/BiFunction"), (.object "java/util/function/BiFunction"), (.object "java/util/function/BiFunction")]
  resolved := Array.replicate 194 none
  statics := some 1 }

def pool16 : Array CpInfo := pool [(9, u "<init>"), (6, .class_ 18), (1, u "java/lang/Object"), (0, u "()V"), (1, .class_ 23), (1, u "jdk/internal/util/ArraysSupport"), (0, u "LOG2_ARRAY_LONG_INDEX_SCALE"), (0, u "I"), (2, u "U"), (0, u "Ljdk/internal/misc/Unsafe;"), (8, u "BIG_ENDIAN"), (0, u "Z"), (8, u "LOG2_BYTE_BIT_SIZE"), (4, u "LOG2_ARRAY_INT_INDEX_SCALE"), (54, u "JLA"), (0, u "Ljdk/internal/access/JavaLangAccess;"), (11, u "LOG2_ARRAY_BOOLEAN_INDEX_SCALE"), (9, u "LOG2_ARRAY_BYTE_INDEX_SCALE"), (5, u "LOG2_ARRAY_CHAR_INDEX_SCALE"), (5, u "LOG2_ARRAY_SHORT_INDEX_SCALE"), (18, u "LOG2_ARRAY_FLOAT_INDEX_SCALE"), (24, u "LOG2_ARRAY_DOUBLE_INDEX_SCALE"), (89, u "T_BOOLEAN"), (2, u "T_CHAR"), (1, u "T_FLOAT"), (1, u "T_DOUBLE"), (1, u "T_BYTE"), (1, u "T_SHORT"), (1, u "T_INT"), (1, u "T_LONG"), (1, u "SOFT_MAX_ARRAY_LENGTH")] 83

def k16m0 : Method := { name := "<init>", desc := "()V", sig := { parameters := [], returnType := none }, accessFlags := 2, code := none }
/-- jdk/internal/util/ArraysSupport -/
def k16 : Class := { plain "jdk/internal/util/ArraysSupport" (some 0) with
  accessFlags := 33
  interfaces := #[]
  cf := some (fileOf pool16 21 #[] #[{ accessFlags := 2, nameIndex := 9, descriptorIndex := 19, attributes := #[] }] 33 16 #[] #[{ accessFlags := 24, nameIndex := 28, descriptorIndex := 29, attributes := #[] }, { accessFlags := 26, nameIndex := 38, descriptorIndex := 39, attributes := #[] }, { accessFlags := 25, nameIndex := 121, descriptorIndex := 25, attributes := #[] }, { accessFlags := 25, nameIndex := 131, descriptorIndex := 25, attributes := #[] }, { accessFlags := 25, nameIndex := 137, descriptorIndex := 25, attributes := #[] }, { accessFlags := 25, nameIndex := 143, descriptorIndex := 25, attributes := #[] }, { accessFlags := 25, nameIndex := 53, descriptorIndex := 25, attributes := #[] }, { accessFlags := 25, nameIndex := 24, descriptorIndex := 25, attributes := #[] }, { accessFlags := 25, nameIndex := 162, descriptorIndex := 25, attributes := #[] }, { accessFlags := 25, nameIndex := 187, descriptorIndex := 25, attributes := #[] }, { accessFlags := 26, nameIndex := 48, descriptorIndex := 25, attributes := #[] }, { accessFlags := 25, nameIndex := 277, descriptorIndex := 25, attributes := #[] }, { accessFlags := 25, nameIndex := 280, descriptorIndex := 25, attributes := #[] }, { accessFlags := 25, nameIndex := 282, descriptorIndex := 25, attributes := #[] }, { accessFlags := 25, nameIndex := 284, descriptorIndex := 25, attributes := #[] }, { accessFlags := 25, nameIndex := 286, descriptorIndex := 25, attributes := #[] }, { accessFlags := 25, nameIndex := 288, descriptorIndex := 25, attributes := #[] }, { accessFlags := 25, nameIndex := 290, descriptorIndex := 25, attributes := #[] }, { accessFlags := 25, nameIndex := 292, descriptorIndex := 25, attributes := #[] }, { accessFlags := 26, nameIndex := 108, descriptorIndex := 109, attributes := #[] }, { accessFlags := 25, nameIndex := 294, descriptorIndex := 25, attributes := #[] }])
  fields := #[{ name := "U", type := (.object "jdk/internal/misc/Unsafe"), accessFlags := 24, slot := 0, constantValue := 0 }, { name := "BIG_ENDIAN", type := .boolean, accessFlags := 26, slot := 1, constantValue := 0 }, { name := "LOG2_ARRAY_BOOLEAN_INDEX_SCALE", type := .int, accessFlags := 25, slot := 2, constantValue := 0 }, { name := "LOG2_ARRAY_BYTE_INDEX_SCALE", type := .int, accessFlags := 25, slot := 3, constantValue := 0 }, { name := "LOG2_ARRAY_CHAR_INDEX_SCALE", type := .int, accessFlags := 25, slot := 4, constantValue := 0 }, { name := "LOG2_ARRAY_SHORT_INDEX_SCALE", type := .int, accessFlags := 25, slot := 5, constantValue := 0 }, { name := "LOG2_ARRAY_INT_INDEX_SCALE", type := .int, accessFlags := 25, slot := 6, constantValue := 0 }, { name := "LOG2_ARRAY_LONG_INDEX_SCALE", type := .int, accessFlags := 25, slot := 7, constantValue := 0 }, { name := "LOG2_ARRAY_FLOAT_INDEX_SCALE", type := .int, accessFlags := 25, slot := 8, constantValue := 0 }, { name := "LOG2_ARRAY_DOUBLE_INDEX_SCALE", type := .int, accessFlags := 25, slot := 9, constantValue := 0 }, { name := "LOG2_BYTE_BIT_SIZE", type := .int, accessFlags := 26, slot := 10, constantValue := 0 }, { name := "T_BOOLEAN", type := .int, accessFlags := 25, slot := 11, constantValue := 0 }, { name := "T_CHAR", type := .int, accessFlags := 25, slot := 12, constantValue := 0 }, { name := "T_FLOAT", type := .int, accessFlags := 25, slot := 13, constantValue := 0 }, { name := "T_DOUBLE", type := .int, accessFlags := 25, slot := 14, constantValue := 0 }, { name := "T_BYTE", type := .int, accessFlags := 25, slot := 15, constantValue := 0 }, { name := "T_SHORT", type := .int, accessFlags := 25, slot := 16, constantValue := 0 }, { name := "T_INT", type := .int, accessFlags := 25, slot := 17, constantValue := 0 }, { name := "T_LONG", type := .int, accessFlags := 25, slot := 18, constantValue := 0 }, { name := "JLA", type := (.object "jdk/internal/access/JavaLangAccess"), accessFlags := 26, slot := 19, constantValue := 0 }, { name := "SOFT_MAX_ARRAY_LENGTH", type := .int, accessFlags := 25, slot := 20, constantValue := 0 }]
  methods := #[k16m0]
  instanceTypes := #[]
  staticTypes := #[(.object "jdk/internal/misc/Unsafe"), .boolean, .int, .int, .int, .int, .int, .int, .int, .int, .int, .int, .int, .int, .int, .int, .int, .int, .int, (.object "jdk/internal/access/JavaLangAccess"), .int]
  resolved := Array.replicate 378 none
  statics := none }

def pool17 : Array CpInfo := pool [(1, u "java/lang/Cloneable"), (0, .class_ 1), (0, u "java/lang/Object"), (0, .class_ 3)] 3

/-- java/lang/Cloneable -/
def k17 : Class := { plain "java/lang/Cloneable" (some 0) with
  accessFlags := 1537
  interfaces := #[]
  cf := some (fileOf pool17 2 #[] #[] 1537 4 #[] #[])
  fields := #[]
  methods := #[]
  instanceTypes := #[]
  staticTypes := #[]
  resolved := Array.replicate 8 none
  statics := none }

/-- the primitive byte -/
def k18 : Class := { plain "byte" none with kind := .primitive 'B', accessFlags := 0x411 }
/-- [B -/
def k19 : Class := { plain "[B" (some 0) with kind := .array 18 .byte, interfaces := #[17, 2], accessFlags := 1041 }

/-- the primitive char -/
def k20 : Class := { plain "char" none with kind := .primitive 'C', accessFlags := 0x411 }
/-- [C -/
def k21 : Class := { plain "[C" (some 0) with kind := .array 20 .char, interfaces := #[17, 2], accessFlags := 1041 }

/-- the primitive int -/
def k22 : Class := { plain "int" none with kind := .primitive 'I', accessFlags := 0x411 }
/-- [I -/
def k23 : Class := { plain "[I" (some 0) with kind := .array 22 .int, interfaces := #[17, 2], accessFlags := 1041 }

def heap : Heap := #[{ cls := 7, slots := #[.long 0, .int 1, .null, .int 0, .null, .int 0, .int 0], vm := .statics 7 },
  { cls := 15, slots := #[.null, .null, .null], vm := .statics 15 }]
def classes : Array Class := #[k0, k1, k2, k3, k4, k5, k6, k7, k8, k9, k10, k11, k12, k13, k14, k15, k16, k17, k18, k19, k20, k21, k22, k23]
def interned : List (Array UInt16 × Addr) := []
def slotsUsed : Nat := 10
def theMethod : MethodId := ⟨1, 1⟩
def args0 : Array Value := #[.int 1, .int 2, .int 3, .int 4]
def aboutOver (below : List Frame) : State where
  vm := { classes := classes, interned := interned.toArray }
  heap := heap
  slotsUsed := slotsUsed
  threads := #[{ frames := .invoking theMethod args0 :: below }]
def below0 : List Frame := [.native { method := ⟨0, 0⟩, args := #[] }]
def about1 : State := aboutOver below0
def p0 : Program := .bare "" "" ""
def e0 : Env := launch0.env 0 0 0
theorem w_frames : about1.frames = Frame.invoking theMethod args0 :: below0 := rfl
set_option maxRecDepth 65536 in
theorem w_args : argsFit about1.vm theMethod args0 = true := by decide +kernel
set_option maxRecDepth 65536 in
theorem w_heap : heapFits about1 = true := by decide +kernel
set_option maxRecDepth 65536 in
theorem w_runnable : about1.curStatus? = some .runnable := by decide +kernel
set_option maxRecDepth 65536 in
theorem w_alone : about1.alone = true := by decide +kernel
set_option maxRecDepth 65536 in
theorem w_named : about1.methodNamed? x = some theMethod := by decide +kernel
set_option maxRecDepth 65536 in
theorem w_hears : about1.hears theMethod below0 = true := by decide +kernel
set_option maxRecDepth 65536 in
theorem w_ripe : about1.ripe theMethod args0 below0 = true := by decide +kernel
theorem w_running : about1.status = .running := rfl
set_option maxRecDepth 65536 in
theorem w_room : about1.hasRoom e0.platform room_1 = true :=
  launch0.hasRoom_least _ room_1 (by decide +kernel) (by decide +kernel) (by decide +kernel) (by decide +kernel) (by decide +kernel) (by decide +kernel)
theorem allAtoms_all (ts : List Jvm.Cond) (a : Array Jvm.Value) (st : Jvm.State) : (allAtoms ts).before a st = ts.all (fun c => c.before a st) := by
  induction ts with
  | nil => rfl
  | cons c t ih =>
    show (Jvm.Cond.and c (allAtoms t)).before a st = _
    rw [Jvm.Cond.before_and, ih, List.all_cons]
def words1 : List Jvm.Cond := Jvm.Cond.code x code maxLocals ret :: tables_1
/-- a 'code' word, met by the world's own term for the bytes: nothing is compared byte by byte -/
theorem code_word {y : MethodName} {bytes : ByteArray} {mx : Nat} {rt : Option FieldType} {a : Array Value} {s : State} {m : MethodId} {meth : Method} {c : Code} (h1 : s.methodNamed? y = some m) (h2 : s.vm.method? m = some meth) (h3 : meth.code = some c) (h4 : c.code = bytes)
    (h5 : (c.maxLocals == mx && c.exceptionTable.isEmpty && decide (c.maxStack ≤ mostOperands) && decide (meth.sig.returnType = rt) && !meth.locks && decide (parseMethodDescriptor y.desc = some meth.sig)) = true) : (Jvm.Cond.code y bytes mx rt).before a s = true := by
  simp only [Bool.and_eq_true, beq_iff_eq, Bool.not_eq_true', decide_eq_true_eq] at h5
  obtain ⟨⟨⟨⟨⟨g1, g2⟩, g3⟩, g4⟩, g5⟩, g6⟩ := h5
  simp [Cond.before, Cond.holds, Cond.value, h1, h2, h3, h4, g1, g2, g3, g4, g5, g6]
def isCode : Jvm.Cond → Bool
  | .code _ _ _ _ => true
  | _ => false
theorem all_split {L : List Jvm.Cond} {P : Jvm.Cond → Bool} (h1 : L.all (fun c => isCode c || P c) = true) (h2 : ∀ c ∈ L.filter isCode, P c = true) : L.all P = true := by
  refine List.all_eq_true.mpr fun c hc => ?_
  have h := List.all_eq_true.mp h1 c hc
  rcases Bool.eq_false_or_eq_true (isCode c) with hi | hi
  · exact h2 c (List.mem_filter.mpr ⟨hc, hi⟩)
  · simpa [hi] using h
set_option maxRecDepth 65536 in
theorem w_c0 : (Jvm.Cond.code x code maxLocals ret).before args0 about1 = true := code_word (m := ⟨1, 1⟩) (meth := k1m1) (c := k1c1) (by decide +kernel) rfl rfl rfl (by decide +kernel)
set_option maxRecDepth 65536 in
theorem w_c1 : (Jvm.Cond.code ({ cls := "com/example/amendment_ledger/amendmentledger/ledger/TextClosingQuotePinLaw", name := "dec", desc := "(I)C" } : Jvm.MethodName) method_3_code (2 : Nat) (Option.some Jvm.ClassFile.FieldType.char)).before args0 about1 = true := code_word (m := ⟨1, 2⟩) (meth := k1m2) (c := k1c2) (by decide +kernel) rfl rfl rfl (by decide +kernel)
set_option maxRecDepth 65536 in
theorem w_c2 : (Jvm.Cond.code ({ cls := "com/example/amendment_ledger/amendmentledger/ledger/TextClosingQuotePinLaw", name := "line", desc := "([CI)Ljava/lang/String;" } : Jvm.MethodName) method_4_code (2 : Nat) (Option.some (Jvm.ClassFile.FieldType.object "java/lang/String"))).before args0 about1 = true := code_word (m := ⟨1, 3⟩) (meth := k1m3) (c := k1c3) (by decide +kernel) rfl rfl rfl (by decide +kernel)
set_option maxRecDepth 65536 in
theorem w_c3 : (Jvm.Cond.code ({ cls := "java/lang/String", name := "<init>", desc := "([C)V" } : Jvm.MethodName) jdk_42_method_3_code (2 : Nat) (Option.none : Option Jvm.ClassFile.FieldType)).before args0 about1 = true := code_word (m := ⟨7, 1⟩) (meth := k7m1) (c := k7c1) (by decide +kernel) rfl rfl rfl (by decide +kernel)
set_option maxRecDepth 65536 in
theorem w_c4 : (Jvm.Cond.code ({ cls := "java/lang/String", name := "<init>", desc := "([CIILjava/lang/Void;)V" } : Jvm.MethodName) jdk_42_method_149_code (6 : Nat) (Option.none : Option Jvm.ClassFile.FieldType)).before args0 about1 = true := code_word (m := ⟨7, 4⟩) (meth := k7m4) (c := k7c4) (by decide +kernel) rfl rfl rfl (by decide +kernel)
set_option maxRecDepth 65536 in
theorem w_c5 : (Jvm.Cond.code ({ cls := "java/lang/Object", name := "<init>", desc := "()V" } : Jvm.MethodName) object_method_1_code (1 : Nat) (Option.none : Option Jvm.ClassFile.FieldType)).before args0 about1 = true := code_word (m := ⟨0, 0⟩) (meth := k0m0) (c := k0c0) (by decide +kernel) rfl rfl rfl (by decide +kernel)
set_option maxRecDepth 65536 in
theorem w_c6 : (Jvm.Cond.code ({ cls := "java/lang/StringUTF16", name := "compress", desc := "([CII)[B" } : Jvm.MethodName) jdk_52_method_16_code (6 : Nat) (Option.some (Jvm.ClassFile.FieldType.array Jvm.ClassFile.FieldType.byte))).before args0 about1 = true := code_word (m := ⟨8, 2⟩) (meth := k8m2) (c := k8c2) (by decide +kernel) rfl rfl rfl (by decide +kernel)
set_option maxRecDepth 65536 in
theorem w_c7 : (Jvm.Cond.code ({ cls := "java/lang/StringUTF16", name := "compress", desc := "([CI[BII)I" } : Jvm.MethodName) jdk_52_method_21_code (7 : Nat) (Option.some Jvm.ClassFile.FieldType.int)).before args0 about1 = true := code_word (m := ⟨8, 3⟩) (meth := k8m3) (c := k8c3) (by decide +kernel) rfl rfl rfl (by decide +kernel)
set_option maxRecDepth 65536 in
theorem w_c8 : (Jvm.Cond.code ({ cls := "java/lang/StringUTF16", name := "coderFromArrayLen", desc := "([BI)B" } : Jvm.MethodName) jdk_52_method_15_code (2 : Nat) (Option.some Jvm.ClassFile.FieldType.byte)).before args0 about1 = true := code_word (m := ⟨8, 1⟩) (meth := k8m1) (c := k8c1) (by decide +kernel) rfl rfl rfl (by decide +kernel)
set_option maxRecDepth 65536 in
theorem w_c9 : (Jvm.Cond.code ({ cls := "com/example/amendment_ledger/amendmentledger/ledger/Value$Text", name := "closingQuote", desc := "(Ljava/lang/String;I)I" } : Jvm.MethodName) prog_58_method_4_code (4 : Nat) (Option.some Jvm.ClassFile.FieldType.int)).before args0 about1 = true := code_word (m := ⟨13, 0⟩) (meth := k13m0) (c := k13c0) (by decide +kernel) rfl rfl rfl (by decide +kernel)
set_option maxRecDepth 65536 in
theorem w_c10 : (Jvm.Cond.code ({ cls := "java/lang/String", name := "length", desc := "()I" } : Jvm.MethodName) jdk_42_method_54_code (1 : Nat) (Option.some Jvm.ClassFile.FieldType.int)).before args0 about1 = true := code_word (m := ⟨7, 2⟩) (meth := k7m2) (c := k7c2) (by decide +kernel) rfl rfl rfl (by decide +kernel)
set_option maxRecDepth 65536 in
theorem w_c11 : (Jvm.Cond.code ({ cls := "java/lang/String", name := "coder", desc := "()B" } : Jvm.MethodName) jdk_42_method_152_code (1 : Nat) (Option.some Jvm.ClassFile.FieldType.byte)).before args0 about1 = true := code_word (m := ⟨7, 5⟩) (meth := k7m5) (c := k7c5) (by decide +kernel) rfl rfl rfl (by decide +kernel)
set_option maxRecDepth 65536 in
theorem w_c12 : (Jvm.Cond.code ({ cls := "java/lang/String", name := "charAt", desc := "(I)C" } : Jvm.MethodName) jdk_42_method_56_code (2 : Nat) (Option.some Jvm.ClassFile.FieldType.char)).before args0 about1 = true := code_word (m := ⟨7, 3⟩) (meth := k7m3) (c := k7c3) (by decide +kernel) rfl rfl rfl (by decide +kernel)
set_option maxRecDepth 65536 in
theorem w_c13 : (Jvm.Cond.code ({ cls := "java/lang/String", name := "isLatin1", desc := "()Z" } : Jvm.MethodName) jdk_42_method_154_code (1 : Nat) (Option.some Jvm.ClassFile.FieldType.boolean)).before args0 about1 = true := code_word (m := ⟨7, 6⟩) (meth := k7m6) (c := k7c6) (by decide +kernel) rfl rfl rfl (by decide +kernel)
set_option maxRecDepth 65536 in
theorem w_c14 : (Jvm.Cond.code ({ cls := "java/lang/StringLatin1", name := "charAt", desc := "([BI)C" } : Jvm.MethodName) jdk_43_method_2_code (2 : Nat) (Option.some Jvm.ClassFile.FieldType.char)).before args0 about1 = true := code_word (m := ⟨14, 1⟩) (meth := k14m1) (c := k14c1) (by decide +kernel) rfl rfl rfl (by decide +kernel)
set_option maxRecDepth 65536 in
theorem w_c15 : (Jvm.Cond.code ({ cls := "java/lang/String", name := "checkIndex", desc := "(II)V" } : Jvm.MethodName) jdk_42_method_155_code (2 : Nat) (Option.none : Option Jvm.ClassFile.FieldType)).before args0 about1 = true := code_word (m := ⟨7, 7⟩) (meth := k7m7) (c := k7c7) (by decide +kernel) rfl rfl rfl (by decide +kernel)
set_option maxRecDepth 65536 in
theorem w_c16 : (Jvm.Cond.code ({ cls := "jdk/internal/util/Preconditions", name := "checkIndex", desc := "(IILjava/util/function/BiFunction;)I" } : Jvm.MethodName) jdk_41_method_11_code (3 : Nat) (Option.some Jvm.ClassFile.FieldType.int)).before args0 about1 = true := code_word (m := ⟨15, 1⟩) (meth := k15m1) (c := k15c1) (by decide +kernel) rfl rfl rfl (by decide +kernel)
set_option maxRecDepth 65536 in
theorem w_c17 : (Jvm.Cond.code ({ cls := "com/example/amendment_ledger/amendmentledger/ledger/TextClosingQuotePinLaw", name := "unescapedQuote", desc := "([CIII)Z" } : Jvm.MethodName) method_5_code (4 : Nat) (Option.some Jvm.ClassFile.FieldType.boolean)).before args0 about1 = true := code_word (m := ⟨1, 4⟩) (meth := k1m4) (c := k1c4) (by decide +kernel) rfl rfl rfl (by decide +kernel)
set_option maxRecDepth 65536 in
theorem w_c18 : (Jvm.Cond.code ({ cls := "com/example/amendment_ledger/amendmentledger/ledger/TextClosingQuotePinLaw", name := "backslashesBefore", desc := "([CII)I" } : Jvm.MethodName) method_6_code (6 : Nat) (Option.some Jvm.ClassFile.FieldType.int)).before args0 about1 = true := code_word (m := ⟨1, 5⟩) (meth := k1m5) (c := k1c5) (by decide +kernel) rfl rfl rfl (by decide +kernel)
def codes1 : List Jvm.Cond := [Jvm.Cond.code x code maxLocals ret, Jvm.Cond.code ({ cls := "com/example/amendment_ledger/amendmentledger/ledger/TextClosingQuotePinLaw", name := "dec", desc := "(I)C" } : Jvm.MethodName) method_3_code (2 : Nat) (Option.some Jvm.ClassFile.FieldType.char), Jvm.Cond.code ({ cls := "com/example/amendment_ledger/amendmentledger/ledger/TextClosingQuotePinLaw", name := "line", desc := "([CI)Ljava/lang/String;" } : Jvm.MethodName) method_4_code (2 : Nat) (Option.some (Jvm.ClassFile.FieldType.object "java/lang/String")), Jvm.Cond.code ({ cls := "java/lang/String", name := "<init>", desc := "([C)V" } : Jvm.MethodName) jdk_42_method_3_code (2 : Nat) (Option.none : Option Jvm.ClassFile.FieldType), Jvm.Cond.code ({ cls := "java/lang/String", name := "<init>", desc := "([CIILjava/lang/Void;)V" } : Jvm.MethodName) jdk_42_method_149_code (6 : Nat) (Option.none : Option Jvm.ClassFile.FieldType), Jvm.Cond.code ({ cls := "java/lang/Object", name := "<init>", desc := "()V" } : Jvm.MethodName) object_method_1_code (1 : Nat) (Option.none : Option Jvm.ClassFile.FieldType), Jvm.Cond.code ({ cls := "java/lang/StringUTF16", name := "compress", desc := "([CII)[B" } : Jvm.MethodName) jdk_52_method_16_code (6 : Nat) (Option.some (Jvm.ClassFile.FieldType.array Jvm.ClassFile.FieldType.byte)), Jvm.Cond.code ({ cls := "java/lang/StringUTF16", name := "compress", desc := "([CI[BII)I" } : Jvm.MethodName) jdk_52_method_21_code (7 : Nat) (Option.some Jvm.ClassFile.FieldType.int), Jvm.Cond.code ({ cls := "java/lang/StringUTF16", name := "coderFromArrayLen", desc := "([BI)B" } : Jvm.MethodName) jdk_52_method_15_code (2 : Nat) (Option.some Jvm.ClassFile.FieldType.byte), Jvm.Cond.code ({ cls := "com/example/amendment_ledger/amendmentledger/ledger/Value$Text", name := "closingQuote", desc := "(Ljava/lang/String;I)I" } : Jvm.MethodName) prog_58_method_4_code (4 : Nat) (Option.some Jvm.ClassFile.FieldType.int), Jvm.Cond.code ({ cls := "java/lang/String", name := "length", desc := "()I" } : Jvm.MethodName) jdk_42_method_54_code (1 : Nat) (Option.some Jvm.ClassFile.FieldType.int), Jvm.Cond.code ({ cls := "java/lang/String", name := "coder", desc := "()B" } : Jvm.MethodName) jdk_42_method_152_code (1 : Nat) (Option.some Jvm.ClassFile.FieldType.byte), Jvm.Cond.code ({ cls := "java/lang/String", name := "charAt", desc := "(I)C" } : Jvm.MethodName) jdk_42_method_56_code (2 : Nat) (Option.some Jvm.ClassFile.FieldType.char), Jvm.Cond.code ({ cls := "java/lang/String", name := "isLatin1", desc := "()Z" } : Jvm.MethodName) jdk_42_method_154_code (1 : Nat) (Option.some Jvm.ClassFile.FieldType.boolean), Jvm.Cond.code ({ cls := "java/lang/StringLatin1", name := "charAt", desc := "([BI)C" } : Jvm.MethodName) jdk_43_method_2_code (2 : Nat) (Option.some Jvm.ClassFile.FieldType.char), Jvm.Cond.code ({ cls := "java/lang/String", name := "checkIndex", desc := "(II)V" } : Jvm.MethodName) jdk_42_method_155_code (2 : Nat) (Option.none : Option Jvm.ClassFile.FieldType), Jvm.Cond.code ({ cls := "jdk/internal/util/Preconditions", name := "checkIndex", desc := "(IILjava/util/function/BiFunction;)I" } : Jvm.MethodName) jdk_41_method_11_code (3 : Nat) (Option.some Jvm.ClassFile.FieldType.int), Jvm.Cond.code ({ cls := "com/example/amendment_ledger/amendmentledger/ledger/TextClosingQuotePinLaw", name := "unescapedQuote", desc := "([CIII)Z" } : Jvm.MethodName) method_5_code (4 : Nat) (Option.some Jvm.ClassFile.FieldType.boolean), Jvm.Cond.code ({ cls := "com/example/amendment_ledger/amendmentledger/ledger/TextClosingQuotePinLaw", name := "backslashesBefore", desc := "([CII)I" } : Jvm.MethodName) method_6_code (6 : Nat) (Option.some Jvm.ClassFile.FieldType.int)]
set_option maxRecDepth 65536 in
theorem codes_eq : words1.filter isCode = codes1 := rfl
theorem w_codes : ∀ c ∈ words1.filter isCode, c.before args0 about1 = true := by
  rw [codes_eq]
  intro c hc
  simp only [codes1, List.mem_cons, List.not_mem_nil, or_false] at hc
  rcases hc with rfl | rfl | rfl | rfl | rfl | rfl | rfl | rfl | rfl | rfl | rfl | rfl | rfl | rfl | rfl | rfl | rfl | rfl | rfl
  · exact w_c0
  · exact w_c1
  · exact w_c2
  · exact w_c3
  · exact w_c4
  · exact w_c5
  · exact w_c6
  · exact w_c7
  · exact w_c8
  · exact w_c9
  · exact w_c10
  · exact w_c11
  · exact w_c12
  · exact w_c13
  · exact w_c14
  · exact w_c15
  · exact w_c16
  · exact w_c17
  · exact w_c18
set_option maxRecDepth 65536 in
theorem w_t1 : (words1.take 24).all (fun c => isCode c || c.before args0 about1) = true := by decide +kernel
set_option maxRecDepth 65536 in
theorem w_t2 : ((words1.drop 24).take 24).all (fun c => isCode c || c.before args0 about1) = true := by decide +kernel
set_option maxRecDepth 65536 in
theorem w_t3 : (((words1.drop 24).drop 24).take 24).all (fun c => isCode c || c.before args0 about1) = true := by decide +kernel
set_option maxRecDepth 65536 in
theorem w_t4 : (((words1.drop 24).drop 24).drop 24).all (fun c => isCode c || c.before args0 about1) = true := by decide +kernel
theorem w_tables : (allAtoms (Jvm.Cond.code x code maxLocals ret :: tables_1)).before args0 about1 = true := by
  rw [allAtoms_all]
  show words1.all (fun c => c.before args0 about1) = true
  refine all_split ?_ w_codes
  rw [← List.take_append_drop 24 words1, List.all_append, w_t1, ← List.take_append_drop 24 (words1.drop 24), List.all_append, w_t2, ← List.take_append_drop 24 ((words1.drop 24).drop 24), List.all_append, w_t3, w_t4]
  rfl
set_option maxRecDepth 65536 in
theorem w_rest : rest_1_c.before args0 about1 = true := by decide +kernel
set_option maxRecDepth 65536 in
theorem w_case : (Jvm.Cond.and given_1 narrow_1).before args0 about1 = true := by decide +kernel
theorem w_applies : (headSpec (Jvm.Cond.code x code maxLocals ret :: tables_1) room_1).applies x e0.platform about1 = true :=
  (Spec.applies_iff w_frames).mpr ⟨w_running, w_runnable, w_alone, w_named, w_hears, w_ripe, w_room, w_tables⟩
theorem atStart : AtStart classFile x code maxLocals ret World_1 tables_1 room_1 Calls_1 rest_1 Pre_1 launch0 p0 e0 about1 theMethod args0 below0 :=
  ⟨lists_1, trivial, launch0.admits_env _ _ _, launch0.least_env, fairChoices_fair.cas, fairChoices_fair.clock, w_frames, w_args, w_heap, w_applies, trivial, w_rest, w_case⟩
end start1
theorem witness_1 : WitnessClaimed_1 := ⟨start1.p0, start1.e0, start1.about1, start1.theMethod, start1.args0, start1.below0, start1.atStart⟩
end Jvm.Pilot.@@N@@
