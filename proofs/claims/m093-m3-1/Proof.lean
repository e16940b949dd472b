import JvmDerived
import JvmDerived.Pilot.@@N@@Statement
import JvmDerived.Pilot.@@N@@Code
set_option linter.unusedVariables false
set_option linter.unusedSimpArgs false
@@BLOCK:NumsL.lean.txt@@
/- laws to paste: Road.backV, Road.eqW, Road.codOf (cut by pick.py; bodies as the Statement names them) -/
namespace Jvm.Pilot.@@N@@
namespace StrChars
open Jvm Sem ClassFile Op Lib Jvm.Stand Jvm.Free.XT Jvm.Free.ALB Jvm.Free.JM Jvm.Free
open Jvm.Lib.Cold (StaticIs)
/-- a char array whose places are chars -/
def Ch (a : Addr) (A : Cell) (U : State) : Prop := Arr .char a A U ∧ Typed .char A
theorem Ch.mv {a : Addr} {A : Cell} {U U' : State} (h : Ch a A U) (hal : U.vm.Alike U'.vm) (hh : U'.heap = U.heap) : Ch a A U' := ⟨h.1.mv hal hh, h.2⟩
theorem Ch.keep {a : Addr} {A : Cell} {U U' : State} (h : Ch a A U) (hal : U.vm.Alike U'.vm) (hk : U'.heap[a]? = some A) : Ch a A U' := ⟨h.1.keep hal hk, h.2⟩
/-- what place i of a char[]'s cell holds -/
def cv (A : Cell) (i : Nat) : Int32 := match A.slots[i]? with | some (.int x) => x | _ => 0
theorem Ch.get {a : Addr} {A : Cell} {U : State} (h : Ch a A U) {i : Nat} (hi : i < A.slots.size) : A.slots[i]? = some (.int (cv A i)) := by
  have e := Array.getElem?_eq_getElem hi
  have f := h.2 i _ e
  unfold cv; rw [e]
  generalize A.slots[i] = v at f
  cases v <;> simp [fits] at f ⊢
/-- the byte that i2b leaves of a char -/
def lo8 (x : Int32) : Int32 := x.toInt8.toInt32
theorem fits_lo8 (y : Int32) : fits .byte (.int (lo8 y)) = true := by
  have h1 := y.toInt8.le_toInt
  have h2 := y.toInt8.toInt_lt
  simp only [lo8, fits, Bool.and_eq_true, decide_eq_true_eq, Int32.le_iff_toInt_le, Int8.toInt_toInt32, show (-128 : Int32).toInt = -128 from by decide, show (127 : Int32).toInt = 127 from by decide]
  omega
/-- A' is A but that each place j of lo .. hi - 1 holds f j -/
def Laid (A A' : Cell) (lo hi : Nat) (f : Nat → Value) : Prop := A'.cls = A.cls ∧ A'.vm = A.vm ∧ A'.slots.size = A.slots.size ∧ ∀ i, A'.slots[i]? = if lo ≤ i ∧ i < hi then some (f i) else A.slots[i]?
theorem Laid.zero (A : Cell) (lo : Nat) (f : Nat → Value) : Laid A A lo (lo + 0) f := ⟨rfl, rfl, rfl, fun i => by rw [if_neg (by omega)]⟩
theorem Laid.step {A Ak : Cell} {lo k : Nat} {f : Nat → Value} {v : Value} (h : Laid A Ak lo k f) (hlo : lo ≤ k) (hk : k < Ak.slots.size) (hv : v = f k) : Laid A (Ak.setSlot k v) lo (k + 1) f := by
  refine ⟨h.1, h.2.1, by simpa [Cell.setSlot] using h.2.2.1, fun i => ?_⟩
  by_cases e : k = i
  · subst e; rw [Cell.slots_setSlot_self v hk, if_pos (by omega), hv]
  · rw [Cell.slots_setSlot_ne v e, h.2.2.2 i]
    by_cases q : lo ≤ i ∧ i < k
    · rw [if_pos q, if_pos (by omega)]
    · rw [if_neg q, if_neg (by omega)]
def U16 : String := "java/lang/StringUTF16"
namespace Cmp5
def yN : MethodName := ⟨"java/lang/StringUTF16", "compress", "([CI[BII)I"⟩
abbrev yB : ByteArray := jdk_52_method_21_code
theorem d0 : decode yB 0 = .ok (.iconst 0, 1) := by decide +kernel
theorem d1 : decode yB 1 = .ok (.istore 5, 2) := by decide +kernel
theorem d3 : decode yB 3 = .ok (.iload 5, 2) := by decide +kernel
theorem d5 : decode yB 5 = .ok (.iload 4, 2) := by decide +kernel
theorem d7 : decode yB 7 = .ok (.if_icmp (.ge) 37, 3) := by decide +kernel
theorem d10 : decode yB 10 = .ok (.aload_n 0, 1) := by decide +kernel
theorem d11 : decode yB 11 = .ok (.iload_n 1, 1) := by decide +kernel
theorem d12 : decode yB 12 = .ok (.caload, 1) := by decide +kernel
theorem d13 : decode yB 13 = .ok (.istore 6, 2) := by decide +kernel
theorem d15 : decode yB 15 = .ok (.iload 6, 2) := by decide +kernel
theorem d17 : decode yB 17 = .ok (.sipush 255, 3) := by decide +kernel
theorem d20 : decode yB 20 = .ok (.if_icmp (.le) 6, 3) := by decide +kernel
theorem d26 : decode yB 26 = .ok (.aload_n 2, 1) := by decide +kernel
theorem d27 : decode yB 27 = .ok (.iload_n 3, 1) := by decide +kernel
theorem d28 : decode yB 28 = .ok (.iload 6, 2) := by decide +kernel
theorem d30 : decode yB 30 = .ok (.i2b, 1) := by decide +kernel
theorem d31 : decode yB 31 = .ok (.bastore, 1) := by decide +kernel
theorem d32 : decode yB 32 = .ok (.iinc 1 1, 3) := by decide +kernel
theorem d35 : decode yB 35 = .ok (.iinc 3 1, 3) := by decide +kernel
theorem d38 : decode yB 38 = .ok (.iinc 5 1, 3) := by decide +kernel
theorem d41 : decode yB 41 = .ok (.goto (-38), 3) := by decide +kernel
theorem d44 : decode yB 44 = .ok (.iload 4, 2) := by decide +kernel
theorem d46 : decode yB 46 = .ok (.ireturn, 1) := by decide +kernel
def site : List Cond := []
def tab : Cond := tabOf yN yB 7 (some .int) site
def P (b : Addr) (A : Cell) (d : Addr) (B : Cell) (o q len : Nat) (args : Array Value) (s : State) : Prop := args = #[.ref b, .int (Int32.ofNat o), .ref d, .int (Int32.ofNat q), .int (Int32.ofNat len)] ∧ Ch b A s ∧ Arr .byte d B s ∧ b ≠ d ∧ o + len ≤ A.slots.size ∧ q + len ≤ B.slots.size ∧ ∀ i, i < len → ¬ 255 < cv A (o + i)
def E (b : Addr) (A : Cell) (d : Addr) (B : Cell) (o q len : Nat) (r : Option Value) (s u : State) : Prop := r = some (.int (Int32.ofNat len)) ∧ ∃ B', Put d B' s u ∧ Laid B B' q (q + len) (fun j => Value.int (lo8 (cv A (o + (j - q)))))
/-- no char of the range above 255: len; the places written hold each char's low byte -/
theorem law (l : Launch) (b : Addr) (A : Cell) (d : Addr) (B : Cell) (o q len : Nat) : Law l yN 5 5 0 0 yB 7 (some .int) site (P b A d B o q len) (E b A d B o q len) (copyLocs d q len) 0 0 := by
  refine Law.of_walk (plainFor_of_name (by decide +kernel)) (by decide +kernel) (by decide +kernel) (by decide) (fun _ _ h => by rw [h.1]; rfl) (fun _ U U' hal hh h => ⟨h.1, h.2.1.mv hal hh, h.2.2.1.mv hal hh, h.2.2.2⟩) (fun r U U' V V' h1 hal h2 h => ⟨h.1, h.2.elim fun B' q => ⟨B', q.1.mv h1 h2, q.2⟩⟩) ?_
  intro p e s m args below meth c s₁ X0 hexec hbytes hml hret hlk hnm hown hh0 W hP
  obtain ⟨rfl, hA, hB, hne, l1, l2, hp⟩ := hP
  have c1 : Steps p.tables e below (s₁.setTop (entryFrame m #[.ref b, .int (Int32.ofNat o), .ref d, .int (Int32.ofNat q), .int (Int32.ofNat len)] 7)) (s₁.setTop (mkF m 0 #[.val (.ref b), .val (.int (Int32.ofNat o)), .val (.ref d), .val (.int (Int32.ofNat q)), .val (.int (Int32.ofNat len)), .unset, .unset] [])) := entry rfl
  have hA0 := hA.1.mv X0.warmed.alike hh0
  have hB0 := hB.mv X0.warmed.alike hh0
  have a31 := hA.1.2.2.2
  have c2 : Steps p.tables e below (s₁.setTop (entryFrame m #[.ref b, .int (Int32.ofNat o), .ref d, .int (Int32.ofNat q), .int (Int32.ofNat len)] 7)) (s₁.setTop (mkF m 3 #[.val (.ref b), .val (.int (Int32.ofNat o)), .val (.ref d), .val (.int (Int32.ofNat q)), .val (.int (Int32.ofNat len)), .val (.int 0), .unset] [])) := c1.trans (by
    refine iconstV X0.here hexec rfl 0 (hb hbytes d0) (by decide) ?_
    refine XS.istore X0.here hexec rfl (hb hbytes d1) rfl rfl ?_
    exact Steps.refl _)
  have loop : ∀ (r i : Nat), i + r = len → ∀ (z : Slot), (z = .unset ∨ ∃ w, z = .val w ∧ w.category = 1) → ∀ (Tl : State) (Bk : Cell), Stand p l e { frames := 0, locals := 0, cells := 0, slots := 0 } s m #[.ref b, .int (Int32.ofNat o), .ref d, .int (Int32.ofNat q), .int (Int32.ofNat len)] below meth c Tl ([] ++ copyLocs d q i) 0 0 → Put d Bk s₁ Tl → Laid B Bk q (q + i) (fun j => Value.int (lo8 (cv A (o + (j - q))))) →
      Steps p.tables e below (s₁.setTop (entryFrame m #[.ref b, .int (Int32.ofNat o), .ref d, .int (Int32.ofNat q), .int (Int32.ofNat len)] 7)) (Tl.setTop (mkF m 3 #[.val (.ref b), .val (.int (Int32.ofNat (o + i))), .val (.ref d), .val (.int (Int32.ofNat (q + i))), .val (.int (Int32.ofNat len)), .val (.int (Int32.ofNat i)), z] [])) → ∃ (T' : State) (B' : Cell) (z' : Slot), Stand p l e { frames := 0, locals := 0, cells := 0, slots := 0 } s m #[.ref b, .int (Int32.ofNat o), .ref d, .int (Int32.ofNat q), .int (Int32.ofNat len)] below meth c T' ([] ++ copyLocs d q len) 0 0 ∧ Put d B' s₁ T' ∧ Laid B B' q (q + len) (fun j => Value.int (lo8 (cv A (o + (j - q))))) ∧
      Steps p.tables e below (s₁.setTop (entryFrame m #[.ref b, .int (Int32.ofNat o), .ref d, .int (Int32.ofNat q), .int (Int32.ofNat len)] 7)) (T'.setTop (mkF m 3 #[.val (.ref b), .val (.int (Int32.ofNat (o + len))), .val (.ref d), .val (.int (Int32.ofNat (q + len))), .val (.int (Int32.ofNat len)), .val (.int (Int32.ofNat len)), z'] [])) := by
    intro r
    induction r with
    | zero =>
      intro i hi z hz Tl Bk Xl pl fl cl
      have hil : i = len := by omega
      rw [hil] at Xl fl cl
      exact ⟨Tl, Bk, z, Xl, pl, fl, cl⟩
    | succ r ih =>
      intro i hi z hz Tl Bk Xl pl fl cl
      have all := X0.warmed.alike.symm.trans Xl.warmed.alike
      have hAl := hA0.keep all (pl.other hne hA0.1)
      have hBk := hB0.like all pl.1 fl.1 fl.2.1 fl.2.2.1
      have hlt : q + i < Bk.slots.size := by rw [fl.2.2.1]; omega
      have c3 : Steps p.tables e below (s₁.setTop (entryFrame m #[.ref b, .int (Int32.ofNat o), .ref d, .int (Int32.ofNat q), .int (Int32.ofNat len)] 7)) (Tl.setTop (mkF m 12 #[.val (.ref b), .val (.int (Int32.ofNat (o + i))), .val (.ref d), .val (.int (Int32.ofNat (q + i))), .val (.int (Int32.ofNat len)), .val (.int (Int32.ofNat i)), z] [.int (Int32.ofNat (o + i)), .ref b])) := cl.trans (by
        refine XS.iload Xl.here hexec rfl (hb hbytes d3) rfl ?_
        refine XS.iload Xl.here hexec rfl (hb hbytes d5) rfl ?_
        refine XS.icmpNo Xl.here hexec rfl (hb hbytes d7) rfl (ii_ge_f (lt32 (by omega) (by omega))) ?_
        refine XS.aloadN Xl.here hexec rfl (hb hbytes d10) rfl rfl ?_
        refine XS.iloadN Xl.here hexec rfl (hb hbytes d11) rfl ?_
        exact Steps.refl _)
      have c4 : Steps p.tables e below (s₁.setTop (entryFrame m #[.ref b, .int (Int32.ofNat o), .ref d, .int (Int32.ofNat q), .int (Int32.ofNat len)] 7)) (Tl.setTop (mkF m 13 #[.val (.ref b), .val (.int (Int32.ofNat (o + i))), .val (.ref d), .val (.int (Int32.ofNat (q + i))), .val (.int (Int32.ofNat len)), .val (.int (Int32.ofNat i)), z] [.int (cv A (o + i))])) := c3.trans (by
        refine Xl.aget hexec hAl rfl (hA.get (i := o + i) (by omega)) rfl rfl (hb hbytes d12) ?_
        exact Steps.refl _)
      have c5 : Steps p.tables e below (s₁.setTop (entryFrame m #[.ref b, .int (Int32.ofNat o), .ref d, .int (Int32.ofNat q), .int (Int32.ofNat len)] 7)) (Tl.setTop (mkF m 15 #[.val (.ref b), .val (.int (Int32.ofNat (o + i))), .val (.ref d), .val (.int (Int32.ofNat (q + i))), .val (.int (Int32.ofNat len)), .val (.int (Int32.ofNat i)), .val (.int (cv A (o + i)))] [])) := c4.trans (by
        refine XS.istoreS Xl.here hexec rfl (hb hbytes d13) rfl rfl hz ?_
        exact Steps.refl _)
      have c6 : Steps p.tables e below (s₁.setTop (entryFrame m #[.ref b, .int (Int32.ofNat o), .ref d, .int (Int32.ofNat q), .int (Int32.ofNat len)] 7)) (Tl.setTop (mkF m 31 #[.val (.ref b), .val (.int (Int32.ofNat (o + i))), .val (.ref d), .val (.int (Int32.ofNat (q + i))), .val (.int (Int32.ofNat len)), .val (.int (Int32.ofNat i)), .val (.int (cv A (o + i)))] [.int (lo8 (cv A (o + i))), .int (Int32.ofNat (q + i)), .ref d])) := c5.trans (by
        refine XS.iload Xl.here hexec rfl (hb hbytes d15) rfl ?_
        refine sipushV Xl.here hexec rfl 255 (hb hbytes d17) (by decide) ?_
        refine XS.icmpYes Xl.here hexec rfl (pc0 := 20) rfl (hb hbytes d20) rfl (ii_le_t (hp i (by omega))) (by decide) rfl ?_
        refine XS.aloadN Xl.here hexec rfl (hb hbytes d26) rfl rfl ?_
        refine XS.iloadN Xl.here hexec rfl (hb hbytes d27) rfl ?_
        refine XS.iload Xl.here hexec rfl (hb hbytes d28) rfl ?_
        refine i2b Xl.here hexec rfl (hb hbytes d30) rfl ?_
        exact Steps.refl _)
      obtain ⟨T7, X7, p7, st7⟩ := Xl.aput hexec hBk rfl hlt rfl (fits_lo8 (cv A (o + i))) (g := (mkF m 31 #[.val (.ref b), .val (.int (Int32.ofNat (o + i))), .val (.ref d), .val (.int (Int32.ofNat (q + i))), .val (.int (Int32.ofNat len)), .val (.int (Int32.ofNat i)), .val (.int (cv A (o + i)))] [.int (lo8 (cv A (o + i))), .int (Int32.ofNat (q + i)), .ref d])) rfl (rest := []) rfl (hb hbytes d31)
      have c8 : Steps p.tables e below (s₁.setTop (entryFrame m #[.ref b, .int (Int32.ofNat o), .ref d, .int (Int32.ofNat q), .int (Int32.ofNat len)] 7)) (T7.setTop (mkF m 32 #[.val (.ref b), .val (.int (Int32.ofNat (o + i))), .val (.ref d), .val (.int (Int32.ofNat (q + i))), .val (.int (Int32.ofNat len)), .val (.int (Int32.ofNat i)), .val (.int (cv A (o + i)))] [])) := c6.trans (st7 _ (Steps.refl _))
      have c9 : Steps p.tables e below (s₁.setTop (entryFrame m #[.ref b, .int (Int32.ofNat o), .ref d, .int (Int32.ofNat q), .int (Int32.ofNat len)] 7)) (T7.setTop (mkF m 3 #[.val (.ref b), .val (.int (Int32.ofNat (o + i) + 1)), .val (.ref d), .val (.int (Int32.ofNat (q + i) + 1)), .val (.int (Int32.ofNat len)), .val (.int (Int32.ofNat i + 1)), .val (.int (cv A (o + i)))] [])) := c8.trans (by
        refine iincV X7.here hexec rfl 1 (hb hbytes d32) (by decide) rfl rfl ?_
        refine iincV X7.here hexec rfl 1 (hb hbytes d35) (by decide) rfl rfl ?_
        refine iincV X7.here hexec rfl 1 (hb hbytes d38) (by decide) rfl rfl ?_
        refine XS.goto X7.here hexec rfl (pc0 := 41) rfl (hb hbytes d41) (by decide) rfl ?_
        exact Steps.refl _)
      have c10 : Steps p.tables e below (s₁.setTop (entryFrame m #[.ref b, .int (Int32.ofNat o), .ref d, .int (Int32.ofNat q), .int (Int32.ofNat len)] 7)) (T7.setTop (mkF m 3 #[.val (.ref b), .val (.int (Int32.ofNat (o + (i + 1)))), .val (.ref d), .val (.int (Int32.ofNat (q + (i + 1)))), .val (.int (Int32.ofNat len)), .val (.int (Int32.ofNat (i + 1))), .val (.int (cv A (o + i)))] [])) := by
        have := c9
        rw [succ32, succ32, succ32] at this
        exact this
      exact ih (i + 1) (by omega) _ (Or.inr ⟨_, rfl, rfl⟩) T7 _ (by rw [copyLocs_step, ← List.append_assoc]; exact X7) (pl.trans p7) (fl.step (by omega) hlt (by simp)) c10
  obtain ⟨T9, B9, z9, X9, p9, f9, g9⟩ := loop len 0 (by omega) .unset (Or.inl rfl) s₁ B (by simpa [copyLocs] using X0) ⟨hB0.1, fun _ _ => rfl, rfl⟩ (Laid.zero _ _ _) c2
  have c11 : Steps p.tables e below (s₁.setTop (entryFrame m #[.ref b, .int (Int32.ofNat o), .ref d, .int (Int32.ofNat q), .int (Int32.ofNat len)] 7)) (T9.setTop (mkF m 46 #[.val (.ref b), .val (.int (Int32.ofNat (o + len))), .val (.ref d), .val (.int (Int32.ofNat (q + len))), .val (.int (Int32.ofNat len)), .val (.int (Int32.ofNat len)), z9] [.int (Int32.ofNat len)])) := g9.trans (by
    refine XS.iload X9.here hexec rfl (hb hbytes d3) rfl ?_
    refine XS.iload X9.here hexec rfl (hb hbytes d5) rfl ?_
    refine XS.icmpYes X9.here hexec rfl (pc0 := 7) rfl (hb hbytes d7) rfl (ii_ge_t (nlt32 (by omega) (Nat.le_refl _))) (by decide) rfl ?_
    refine XS.iload X9.here hexec rfl (hb hbytes d44) rfl ?_
    exact Steps.refl _)
  exact ⟨T9, some (.int (Int32.ofNat len)), _, _, _, X9, by simp, rfl, rfl, (fun h => by cases h), ⟨rfl, B9, p9.from hh0, f9⟩, fun fs hl => c11.trans (X9.ireturnOut hexec hret rfl (Or.inl rfl) (hb hbytes d46) hl)⟩
end Cmp5
namespace Cmp3
def yN : MethodName := ⟨"java/lang/StringUTF16", "compress", "([CII)[B"⟩
abbrev yB : ByteArray := jdk_52_method_16_code
theorem d0 : decode yB 0 = .ok (.iload_n 2, 1) := by decide +kernel
theorem d1 : decode yB 1 = .ok (.newarray .byte, 2) := by decide +kernel
theorem d3 : decode yB 3 = .ok (.astore_n 3, 1) := by decide +kernel
theorem d4 : decode yB 4 = .ok (.aload_n 0, 1) := by decide +kernel
theorem d5 : decode yB 5 = .ok (.iload_n 1, 1) := by decide +kernel
theorem d6 : decode yB 6 = .ok (.aload_n 3, 1) := by decide +kernel
theorem d7 : decode yB 7 = .ok (.iconst 0, 1) := by decide +kernel
theorem d8 : decode yB 8 = .ok (.iload_n 2, 1) := by decide +kernel
theorem d9 : decode yB 9 = .ok (.invokestatic 115, 3) := by decide +kernel
theorem d12 : decode yB 12 = .ok (.istore 4, 2) := by decide +kernel
theorem d14 : decode yB 14 = .ok (.iload 4, 2) := by decide +kernel
theorem d16 : decode yB 16 = .ok (.iload_n 2, 1) := by decide +kernel
theorem d17 : decode yB 17 = .ok (.if_icmp (.eq) 40, 3) := by decide +kernel
theorem d57 : decode yB 57 = .ok (.aload_n 3, 1) := by decide +kernel
theorem d58 : decode yB 58 = .ok (.areturn, 1) := by decide +kernel
def site : List Cond := [.arrayClass .byte, Cmp5.tab] ++ staticW U16 115 Cmp5.yN
def tab : Cond := tabOf yN yB 6 (some (.array .byte)) site
def P (b : Addr) (A : Cell) (o len : Nat) (args : Array Value) (s : State) : Prop := args = #[.ref b, .int (Int32.ofNat o), .int (Int32.ofNat len)] ∧ Ch b A s ∧ o + len ≤ A.slots.size ∧ len ≤ 536870912 ∧ ∀ i, i < len → ¬ 255 < cv A (o + i)
def E (b : Addr) (A : Cell) (o len : Nat) (r : Option Value) (s u : State) : Prop := NewArr .byte "[B" len (fun j => .int (lo8 (cv A (o + j)))) r s u ∧ u.heap.size = s.heap.size + 1
/-- no char of the range above 255: a new byte[] of their low bytes -/
theorem law (l : Launch) (b : Addr) (A : Cell) (o len : Nat) : Law l yN 3 3 1 18 yB 6 (some (.array .byte)) site (P b A o len) (E b A o len) [] 1 len := by
  refine Law.of_walk (plainFor_of_name (by decide +kernel)) (by decide +kernel) (by decide +kernel) (by decide) (fun _ _ h => by rw [h.1]; rfl) (fun _ U U' hal hh h => ⟨h.1, h.2.1.mv hal hh, h.2.2⟩) (fun r U U' V V' h1 hal h2 h => ⟨NewArr.mv r U U' V V' h1 hal h2 h.1, by rw [h1, h2]; exact h.2⟩) ?_
  intro p e s m args below meth c s₁ X0 hexec hbytes hml hret hlk hnm hown hh0 W hP
  obtain ⟨rfl, hA, l1, l2, hp⟩ := hP
  have a31 := hA.1.2.2.2
  have c1 : Steps p.tables e below (s₁.setTop (entryFrame m #[.ref b, .int (Int32.ofNat o), .int (Int32.ofNat len)] 6)) (s₁.setTop (mkF m 0 #[.val (.ref b), .val (.int (Int32.ofNat o)), .val (.int (Int32.ofNat len)), .unset, .unset, .unset] [])) := entry rfl
  have c2 : Steps p.tables e below (s₁.setTop (entryFrame m #[.ref b, .int (Int32.ofNat o), .int (Int32.ofNat len)] 6)) (s₁.setTop (mkF m 1 #[.val (.ref b), .val (.int (Int32.ofNat o)), .val (.int (Int32.ofNat len)), .unset, .unset, .unset] [.int (Int32.ofNat len)])) := c1.trans (by
    refine XS.iloadN X0.here hexec rfl (hb hbytes d0) rfl ?_
    exact Steps.refl _)
  obtain ⟨T3, B3, X3, ba3, bs3, bv3, bh3, bf3, st3⟩ := X0.anew hexec (atype := .byte) (wk W (.arrayClass .byte)) rfl (by show len * 1 ≤ _; omega) (by omega) (g := (mkF m 1 #[.val (.ref b), .val (.int (Int32.ofNat o)), .val (.int (Int32.ofNat len)), .unset, .unset, .unset] [.int (Int32.ofNat len)])) rfl (hb hbytes d1) (rest := []) rfl (Nat.le_refl _) (by show 0 + len ≤ len; omega)
  rw [hh0] at ba3 st3
  have kp3 : XT.Kept s T3 := (XT.Kept.of_eq hh0).push bh3
  have hA3 := hA.keep X3.warmed.alike (kp3 _ _ hA.1.1)
  have hne : b ≠ s.heap.size := hA.1.ne
  have c4 : Steps p.tables e below (s₁.setTop (entryFrame m #[.ref b, .int (Int32.ofNat o), .int (Int32.ofNat len)] 6)) (T3.setTop (mkF m 3 #[.val (.ref b), .val (.int (Int32.ofNat o)), .val (.int (Int32.ofNat len)), .unset, .unset, .unset] [.ref s.heap.size])) := c2.trans (st3 _ (Steps.refl _))
  have c5 : Steps p.tables e below (s₁.setTop (entryFrame m #[.ref b, .int (Int32.ofNat o), .int (Int32.ofNat len)] 6)) (T3.setTop (mkF m 9 #[.val (.ref b), .val (.int (Int32.ofNat o)), .val (.int (Int32.ofNat len)), .val (.ref s.heap.size), .unset, .unset] [.int (Int32.ofNat len), .int 0, .ref s.heap.size, .int (Int32.ofNat o), .ref b])) := c4.trans (by
    refine XS.astoreN X3.here hexec rfl (hb hbytes d3) rfl rfl rfl ?_
    refine XS.aloadN X3.here hexec rfl (hb hbytes d4) rfl rfl ?_
    refine XS.iloadN X3.here hexec rfl (hb hbytes d5) rfl ?_
    refine XS.aloadN X3.here hexec rfl (hb hbytes d6) rfl rfl ?_
    refine iconstV X3.here hexec rfl 0 (hb hbytes d7) (by decide) ?_
    refine XS.iloadN X3.here hexec rfl (hb hbytes d8) rfl ?_
    exact Steps.refl _)
  obtain ⟨v6, T6, X6, E6, g6⟩ := X3.callS hexec (Cmp5.law l b A s.heap.size B3 o 0 len) hown (wks W (staticW U16 115 Cmp5.yN)) (wk W Cmp5.tab) (W := 0) (Nat.le_of_ble_eq_true rfl) (Nat.le_of_ble_eq_true rfl) (Nat.le_refl _) (by show 0 + len + 0 ≤ len; omega) (g := (mkF m 9 #[.val (.ref b), .val (.int (Int32.ofNat o)), .val (.int (Int32.ofNat len)), .val (.ref s.heap.size), .unset, .unset] [.int (Int32.ofNat len), .int (Int32.ofNat 0), .ref s.heap.size, .int (Int32.ofNat o), .ref b])) rfl (by rw [hml]; rfl) c5 (argsL := [.ref b, .int (Int32.ofNat o), .ref s.heap.size, .int (Int32.ofNat 0), .int (Int32.ofNat len)]) (rest := []) rfl rfl (by show 2 * 0 + 0 ≤ _; decide) (hb hbytes d9) (⟨rfl, hA3, ba3, hne, l1, by rw [bs3]; simp, hp⟩)
  obtain ⟨rfl, B6, p6, f6⟩ := E6
  have c7 : Steps p.tables e below (s₁.setTop (entryFrame m #[.ref b, .int (Int32.ofNat o), .int (Int32.ofNat len)] 6)) (T6.setTop (mkF m 12 #[.val (.ref b), .val (.int (Int32.ofNat o)), .val (.int (Int32.ofNat len)), .val (.ref s.heap.size), .unset, .unset] [.int (Int32.ofNat len)])) := g6
  have c8 : Steps p.tables e below (s₁.setTop (entryFrame m #[.ref b, .int (Int32.ofNat o), .int (Int32.ofNat len)] 6)) (T6.setTop (mkF m 58 #[.val (.ref b), .val (.int (Int32.ofNat o)), .val (.int (Int32.ofNat len)), .val (.ref s.heap.size), .val (.int (Int32.ofNat len)), .unset] [.ref s.heap.size])) := c7.trans (by
    refine XS.istore X6.here hexec rfl (hb hbytes d12) rfl rfl ?_
    refine XS.iload X6.here hexec rfl (hb hbytes d14) rfl ?_
    refine XS.iloadN X6.here hexec rfl (hb hbytes d16) rfl ?_
    refine XS.icmpYes X6.here hexec rfl (pc0 := 17) rfl (hb hbytes d17) rfl (ii_eq_t rfl) (by decide) rfl ?_
    refine XS.aloadN X6.here hexec rfl (hb hbytes d57) rfl rfl ?_
    exact Steps.refl _)
  have X8 := X6.wide (L' := []) (cells' := 1) (slots' := len) (fun x hx hlt => by
    simp only [List.nil_append, copyLocs, List.mem_map, List.mem_range] at hx
    obtain ⟨i, -, rfl⟩ := hx
    exact absurd hlt (Nat.lt_irrefl _)) (Nat.le_refl _) (by omega)
  exact ⟨T6, some (.ref s.heap.size), _, _, _, X8, rfl, rfl, rfl, (fun h => by cases h), ⟨⟨rfl, B6, ba3.like (X3.warmed.alike.symm.trans X6.warmed.alike) p6.1 f6.1 f6.2.1 f6.2.2.1, f6.2.1.trans bv3, by rw [X6.warmed.alike.findClass, f6.1]; exact bf3, by rw [f6.2.2.1, bs3]; simp, fun j hj => by rw [f6.2.2.2 j, if_pos (by omega)]; rfl, kp3.put p6 (Nat.le_refl _)⟩, by rw [p6.2.2, bh3, hh0]; simp⟩, fun fs hl => c8.trans (X8.areturnOut hexec rfl hret rfl (hb hbytes d58) hl)⟩
end Cmp3
namespace CodL
def yN : MethodName := ⟨"java/lang/StringUTF16", "coderFromArrayLen", "([BI)B"⟩
abbrev yB : ByteArray := jdk_52_method_15_code
theorem d0 : decode yB 0 = .ok (.iload_n 1, 1) := by decide +kernel
theorem d1 : decode yB 1 = .ok (.aload_n 0, 1) := by decide +kernel
theorem d2 : decode yB 2 = .ok (.arraylength, 1) := by decide +kernel
theorem d3 : decode yB 3 = .ok (.isub, 1) := by decide +kernel
theorem d4 : decode yB 4 = .ok (.bipush 31, 2) := by decide +kernel
theorem d6 : decode yB 6 = .ok (.iushr, 1) := by decide +kernel
theorem d7 : decode yB 7 = .ok (.i2b, 1) := by decide +kernel
theorem d8 : decode yB 8 = .ok (.ireturn, 1) := by decide +kernel
def site : List Cond := []
def tab : Cond := tabOf yN yB 2 (some .byte) site
def P (d : Addr) (B : Cell) (args : Array Value) (s : State) : Prop := args = #[.ref d, .int (Int32.ofNat B.slots.size)] ∧ Arr .byte d B s
def E (r : Option Value) (s u : State) : Prop := XT.PureE (some (.int 0)) r s u
/-- an array as long as the number of chars: LATIN1 -/
theorem law (l : Launch) (d : Addr) (B : Cell) : Law l yN 2 2 0 0 yB 2 (some .byte) site (P d B) E [] 0 0 := by
  refine Law.of_walk (plainFor_of_name (by decide +kernel)) (by decide +kernel) (by decide +kernel) (by decide) (fun _ _ h => by rw [h.1]; rfl) (fun _ U U' hal hh h => ⟨h.1, h.2.mv hal hh⟩) (fun r U U' V V' h1 hal h2 h => XT.PureE.mv r U U' V V' h1 hal h2 h) ?_
  intro p e s m args below meth c s₁ X0 hexec hbytes hml hret hlk hnm hown hh0 W hP
  obtain ⟨rfl, hB⟩ := hP
  have hB0 := hB.mv X0.warmed.alike hh0
  have c1 : Steps p.tables e below (s₁.setTop (entryFrame m #[.ref d, .int (Int32.ofNat B.slots.size)] 2)) (s₁.setTop (mkF m 0 #[.val (.ref d), .val (.int (Int32.ofNat B.slots.size))] [])) := entry rfl
  have c2 : Steps p.tables e below (s₁.setTop (entryFrame m #[.ref d, .int (Int32.ofNat B.slots.size)] 2)) (s₁.setTop (mkF m 2 #[.val (.ref d), .val (.int (Int32.ofNat B.slots.size))] [.ref d, .int (Int32.ofNat B.slots.size)])) := c1.trans (by
    refine XS.iloadN X0.here hexec rfl (hb hbytes d0) rfl ?_
    refine XS.aloadN X0.here hexec rfl (hb hbytes d1) rfl rfl ?_
    exact Steps.refl _)
  have c3 : Steps p.tables e below (s₁.setTop (entryFrame m #[.ref d, .int (Int32.ofNat B.slots.size)] 2)) (s₁.setTop (mkF m 8 #[.val (.ref d), .val (.int (Int32.ofNat B.slots.size))] [.int (lo8 (ushr (Int32.ofNat B.slots.size - Int32.ofNat B.slots.size) 31))])) := c2.trans (by
    refine X0.alen hexec hB0 rfl rfl (hb hbytes d2) ?_
    refine XS.isub X0.here hexec rfl (hb hbytes d3) rfl ?_
    refine bipushV X0.here hexec rfl 31 (hb hbytes d4) (by decide) ?_
    refine iushr X0.here hexec rfl (hb hbytes d6) rfl ?_
    refine i2b X0.here hexec rfl (hb hbytes d7) rfl ?_
    exact Steps.refl _)
  have e0 : lo8 (ushr (Int32.ofNat B.slots.size - Int32.ofNat B.slots.size) 31) = 0 := by rw [Int32.sub_self]; decide
  rw [e0] at c3
  exact ⟨s₁, some (.int 0), _, _, _, X0, rfl, rfl, rfl, (fun h => by cases h), ⟨rfl, hh0⟩, fun fs hl => c3.trans (X0.ireturnOut hexec hret rfl (Or.inr (Or.inr (Or.inl rfl))) (hb hbytes d8) hl)⟩
end CodL
/-- the String at a is Latin-1 over a new byte[] (the heap's one new cell): the low bytes of the len chars of A from o on; every cell but a is kept -/
def Got (a : Addr) (D : Cell) (fV fC : Field) (A : Cell) (o len : Nat) (r : Option Value) (s u : State) : Prop := r = none ∧ ∃ D' V : Cell, Blank "java/lang/String" a D' u ∧ Same D D' [fV.slot, fC.slot] ∧ D'.slots[fV.slot]? = some (.ref s.heap.size) ∧ D'.slots[fC.slot]? = some (.int 0) ∧ Arr .byte s.heap.size V u ∧ V.vm = .none ∧ u.vm.findClass "[B" = some V.cls ∧ V.slots.size = len ∧ (∀ j, j < len → V.slots[j]? = some (.int (lo8 (cv A (o + j))))) ∧ (∀ (y : Addr) (c : Cell), y ≠ a → s.heap[y]? = some c → u.heap[y]? = some c) ∧ u.heap.size = s.heap.size + 1
theorem Got.mv {a : Addr} {D A : Cell} {fV fC : Field} {o len : Nat} : ∀ r (U U' V V' : State), U'.heap = U.heap → V.vm.Alike V'.vm → V'.heap = V.heap → Got a D fV fC A o len r U V → Got a D fV fC A o len r U' V' :=
  fun r U U' V V' h1 hal h2 ⟨e0, D', X, a1, a2, a3, a4, a5, a6, a7, a8, a9, a10, a11⟩ => ⟨e0, D', X, a1.mv hal h2, a2, by rw [h1]; exact a3, a4, by rw [h1]; exact a5.mv hal h2, a6, by rw [hal.findClass]; exact a7, a8, a9, by rw [h1, h2]; exact a10, by rw [h1, h2]; exact a11⟩
namespace New4
def yN : MethodName := ⟨"java/lang/String", "<init>", "([CIILjava/lang/Void;)V"⟩
abbrev yB : ByteArray := jdk_42_method_149_code
theorem d0 : decode yB 0 = .ok (.aload_n 0, 1) := by decide +kernel
theorem d1 : decode yB 1 = .ok (.invokespecial 1, 3) := by decide +kernel
theorem d4 : decode yB 4 = .ok (.iload_n 3, 1) := by decide +kernel
theorem d5 : decode yB 5 = .ok (.ifCond (.ne) 22, 3) := by decide +kernel
theorem d27 : decode yB 27 = .ok (.getstatic 38, 3) := by decide +kernel
theorem d30 : decode yB 30 = .ok (.ifCond (.eq) 28, 3) := by decide +kernel
theorem d33 : decode yB 33 = .ok (.aload_n 1, 1) := by decide +kernel
theorem d34 : decode yB 34 = .ok (.iload_n 2, 1) := by decide +kernel
theorem d35 : decode yB 35 = .ok (.iload_n 3, 1) := by decide +kernel
theorem d36 : decode yB 36 = .ok (.invokestatic 177, 3) := by decide +kernel
theorem d39 : decode yB 39 = .ok (.astore 5, 2) := by decide +kernel
theorem d41 : decode yB 41 = .ok (.aload_n 0, 1) := by decide +kernel
theorem d42 : decode yB 42 = .ok (.aload 5, 2) := by decide +kernel
theorem d44 : decode yB 44 = .ok (.iload_n 3, 1) := by decide +kernel
theorem d45 : decode yB 45 = .ok (.invokestatic 47, 3) := by decide +kernel
theorem d48 : decode yB 48 = .ok (.putfield 15, 3) := by decide +kernel
theorem d51 : decode yB 51 = .ok (.aload_n 0, 1) := by decide +kernel
theorem d52 : decode yB 52 = .ok (.aload 5, 2) := by decide +kernel
theorem d54 : decode yB 54 = .ok (.putfield 9, 3) := by decide +kernel
theorem d57 : decode yB 57 = .ok (.return_, 1) := by decide +kernel
def site : List Cond := [.fieldLink "java/lang/String" 38 "java/lang/String" "COMPACT_STRINGS" "Z", Cmp3.tab, CodL.tab, .laysFinal "java/lang/String" "java/lang/String" "value" "[B", .fieldLink "java/lang/String" 9 "java/lang/String" "value" "[B", .laysFinal "java/lang/String" "java/lang/String" "coder" "B", .fieldLink "java/lang/String" 15 "java/lang/String" "coder" "B"] ++ objW "java/lang/String" 1 ++ staticW "java/lang/String" 177 Cmp3.yN ++ staticW "java/lang/String" 47 CodL.yN
def tab : Cond := tabOf yN yB 6 none site
def P (a : Addr) (D : Cell) (fV fC : Field) (b : Addr) (A : Cell) (z : Int32) (o len : Nat) (args : Array Value) (s : State) : Prop := args = #[.ref a, .ref b, .int (Int32.ofNat o), .int (Int32.ofNat len), .null] ∧ Blank "java/lang/String" a D s ∧ Found "java/lang/String" "value" "[B" fV s ∧ Found "java/lang/String" "coder" "B" fC s ∧ Ch b A s ∧ StaticIs s "java/lang/String" "COMPACT_STRINGS" "Z" (.int z) ∧ ¬ z = 0 ∧ 0 < len ∧ o + len ≤ A.slots.size ∧ len ≤ 536870912 ∧ ∀ i, i < len → ¬ 255 < cv A (o + i)
def E (a : Addr) (D : Cell) (fV fC : Field) (A : Cell) (o len : Nat) (r : Option Value) (s u : State) : Prop := Got a D fV fC A o len r s u
/-- len > 0, no char of the range above 255: a Latin-1 String of their low bytes -/
theorem law (l : Launch) (a : Addr) (D : Cell) (fV fC : Field) (b : Addr) (A : Cell) (z : Int32) (o len : Nat) : Law l yN 5 4 2 35 yB 6 none site (P a D fV fC b A z o len) (E a D fV fC A o len) [⟨a, fC.slot⟩, ⟨a, fV.slot⟩] 1 len := by
  refine Law.of_walk (plainFor_of_name (by decide +kernel)) (by decide +kernel) (by decide +kernel) (by decide) (fun _ _ h => by rw [h.1]; rfl) (fun _ U U' hal hh h => ⟨h.1, h.2.1.mv hal hh, h.2.2.1.al hal, h.2.2.2.1.al hal, h.2.2.2.2.1.mv hal hh, h.2.2.2.2.2.1.there hal hh, h.2.2.2.2.2.2⟩) (fun r U U' V V' h1 hal h2 h => Got.mv r U U' V V' h1 hal h2 h) ?_
  intro p e s m args below meth c s₁ X0 hexec hbytes hml hret hlk hnm hown hh0 W hP
  obtain ⟨rfl, hB, f1, f2, hA, s1, hz, l0, l1, l2, hp⟩ := hP
  have a31 := hA.1.2.2.2
  have c1 : Steps p.tables e below (s₁.setTop (entryFrame m #[.ref a, .ref b, .int (Int32.ofNat o), .int (Int32.ofNat len), .null] 6)) (s₁.setTop (mkF m 0 #[.val (.ref a), .val (.ref b), .val (.int (Int32.ofNat o)), .val (.int (Int32.ofNat len)), .val .null, .unset] [])) := entry rfl
  have c2 : Steps p.tables e below (s₁.setTop (entryFrame m #[.ref a, .ref b, .int (Int32.ofNat o), .int (Int32.ofNat len), .null] 6)) (s₁.setTop (mkF m 1 #[.val (.ref a), .val (.ref b), .val (.int (Int32.ofNat o)), .val (.int (Int32.ofNat len)), .val .null, .unset] [.ref a])) := c1.trans (by
    refine XS.aloadN X0.here hexec rfl (hb hbytes d0) rfl rfl ?_
    exact Steps.refl _)
  obtain ⟨T3, X3, q3, st3⟩ := X0.oinit hexec hown (wks W (objW "java/lang/String" 1)) (g := (mkF m 1 #[.val (.ref a), .val (.ref b), .val (.int (Int32.ofNat o)), .val (.int (Int32.ofNat len)), .val .null, .unset] [.ref a])) rfl (by rw [hml]; rfl) (rest := []) rfl (hb hbytes d1) (W := 0) (by show 2 * 0 + 0 ≤ _; decide) (Nat.le_of_ble_eq_true rfl) (Nat.le_of_ble_eq_true rfl)
  have hh3 := q3.trans hh0
  have c4 : Steps p.tables e below (s₁.setTop (entryFrame m #[.ref a, .ref b, .int (Int32.ofNat o), .int (Int32.ofNat len), .null] 6)) (T3.setTop (mkF m 27 #[.val (.ref a), .val (.ref b), .val (.int (Int32.ofNat o)), .val (.int (Int32.ofNat len)), .val .null, .unset] [])) := (c2.trans (st3 _ (Steps.refl _))).trans (by
    refine XS.iloadN X3.here hexec rfl (hb hbytes d4) rfl ?_
    refine XS.ifYes X3.here hexec rfl (pc0 := 5) rfl (hb hbytes d5) rfl (i0_ne_t (nz32 (by omega) l0)) (by decide) rfl ?_
    exact Steps.refl _)
  obtain ⟨T5, X5, q5, st5⟩ := X3.sget hexec hown (wk W (.fieldLink "java/lang/String" 38 "java/lang/String" "COMPACT_STRINGS" "Z")) s1 (fun _ _ h => by rw [hh3]; exact h) (g := (mkF m 27 #[.val (.ref a), .val (.ref b), .val (.int (Int32.ofNat o)), .val (.int (Int32.ofNat len)), .val .null, .unset] [])) rfl (hb hbytes d27)
  have hh5 := q5.trans hh3
  have c6 : Steps p.tables e below (s₁.setTop (entryFrame m #[.ref a, .ref b, .int (Int32.ofNat o), .int (Int32.ofNat len), .null] 6)) (T5.setTop (mkF m 30 #[.val (.ref a), .val (.ref b), .val (.int (Int32.ofNat o)), .val (.int (Int32.ofNat len)), .val .null, .unset] [.int z])) := c4.trans (st5 _ (Steps.refl _))
  have c7 : Steps p.tables e below (s₁.setTop (entryFrame m #[.ref a, .ref b, .int (Int32.ofNat o), .int (Int32.ofNat len), .null] 6)) (T5.setTop (mkF m 36 #[.val (.ref a), .val (.ref b), .val (.int (Int32.ofNat o)), .val (.int (Int32.ofNat len)), .val .null, .unset] [.int (Int32.ofNat len), .int (Int32.ofNat o), .ref b])) := c6.trans (by
    refine XS.ifNo X5.here hexec rfl (hb hbytes d30) rfl (i0_eq_f hz) ?_
    refine XS.aloadN X5.here hexec rfl (hb hbytes d33) rfl rfl ?_
    refine XS.iloadN X5.here hexec rfl (hb hbytes d34) rfl ?_
    refine XS.iloadN X5.here hexec rfl (hb hbytes d35) rfl ?_
    exact Steps.refl _)
  obtain ⟨v8, T8, X8, E8, g8⟩ := X5.callS hexec (Cmp3.law l b A o len) hown (wks W (staticW "java/lang/String" 177 Cmp3.yN)) (wk W Cmp3.tab) (W := 0) (Nat.le_of_ble_eq_true rfl) (Nat.le_of_ble_eq_true rfl) (Nat.le_refl _) (by show 0 + len ≤ len; omega) (g := (mkF m 36 #[.val (.ref a), .val (.ref b), .val (.int (Int32.ofNat o)), .val (.int (Int32.ofNat len)), .val .null, .unset] [.int (Int32.ofNat len), .int (Int32.ofNat o), .ref b])) rfl (by rw [hml]; rfl) c7 (argsL := [.ref b, .int (Int32.ofNat o), .int (Int32.ofNat len)]) (rest := []) rfl rfl (by show 2 * 0 + 0 ≤ _; decide) (hb hbytes d36) (⟨rfl, hA.mv X5.warmed.alike hh5, l1, l2, hp⟩)
  obtain ⟨e8, z8⟩ := E8
  obtain ⟨rfl, N, n1, n2, n3, n4, n5, n6⟩ := NewArr.mv _ T5 s _ _ hh5.symm (Vm.Alike.refl _) rfl e8
  rw [hh5] at z8
  have hB1 := hB.keep X8.warmed.alike (n6 _ _ hB.1)
  have hne : s.heap.size ≠ a := (Nat.ne_of_lt (Array.getElem?_eq_some_iff.mp hB.1).1).symm
  have c9 : Steps p.tables e below (s₁.setTop (entryFrame m #[.ref a, .ref b, .int (Int32.ofNat o), .int (Int32.ofNat len), .null] 6)) (T8.setTop (mkF m 39 #[.val (.ref a), .val (.ref b), .val (.int (Int32.ofNat o)), .val (.int (Int32.ofNat len)), .val .null, .unset] [.ref s.heap.size])) := g8
  have c10 : Steps p.tables e below (s₁.setTop (entryFrame m #[.ref a, .ref b, .int (Int32.ofNat o), .int (Int32.ofNat len), .null] 6)) (T8.setTop (mkF m 45 #[.val (.ref a), .val (.ref b), .val (.int (Int32.ofNat o)), .val (.int (Int32.ofNat len)), .val .null, .val (.ref s.heap.size)] [.int (Int32.ofNat N.slots.size), .ref s.heap.size, .ref a])) := by
    have hc : Steps p.tables e below (s₁.setTop (entryFrame m #[.ref a, .ref b, .int (Int32.ofNat o), .int (Int32.ofNat len), .null] 6)) (T8.setTop (mkF m 45 #[.val (.ref a), .val (.ref b), .val (.int (Int32.ofNat o)), .val (.int (Int32.ofNat len)), .val .null, .val (.ref s.heap.size)] [.int (Int32.ofNat len), .ref s.heap.size, .ref a])) := c9.trans (by
      refine XS.astore X8.here hexec rfl (hb hbytes d39) rfl rfl rfl ?_
      refine XS.aloadN X8.here hexec rfl (hb hbytes d41) rfl rfl ?_
      refine XS.aload X8.here hexec rfl (hb hbytes d42) rfl rfl ?_
      refine XS.iloadN X8.here hexec rfl (hb hbytes d44) rfl ?_
      exact Steps.refl _)
    rw [n4]; exact hc
  obtain ⟨v11, T11, X11, E11, g11⟩ := X8.callS hexec (CodL.law l s.heap.size N) hown (wks W (staticW "java/lang/String" 47 CodL.yN)) (wk W CodL.tab) (W := 1) (Nat.le_of_ble_eq_true rfl) (Nat.le_of_ble_eq_true rfl) (Nat.le_refl _) (by show 0 + len + 0 ≤ len; omega) (g := (mkF m 45 #[.val (.ref a), .val (.ref b), .val (.int (Int32.ofNat o)), .val (.int (Int32.ofNat len)), .val .null, .val (.ref s.heap.size)] [.int (Int32.ofNat N.slots.size), .ref s.heap.size, .ref a])) rfl (by rw [hml]; rfl) c10 (argsL := [.ref s.heap.size, .int (Int32.ofNat N.slots.size)]) (rest := [.ref a]) rfl rfl (by show 2 * 0 + (1 + 0) ≤ _; decide) (hb hbytes d45) (⟨rfl, n1⟩)
  obtain ⟨rfl, q11⟩ := E11
  have hB11 := hB1.mv (X8.warmed.alike.symm.trans X11.warmed.alike) q11
  have c12 : Steps p.tables e below (s₁.setTop (entryFrame m #[.ref a, .ref b, .int (Int32.ofNat o), .int (Int32.ofNat len), .null] 6)) (T11.setTop (mkF m 48 #[.val (.ref a), .val (.ref b), .val (.int (Int32.ofNat o)), .val (.int (Int32.ofNat len)), .val .null, .val (.ref s.heap.size)] [.int 0, .ref a])) := g11
  obtain ⟨T13, X13, p13, bl13, sl13, st13⟩ := X11.finit hexec hown (wk W (.fieldLink "java/lang/String" 15 "java/lang/String" "coder" "B")) (Or.inr ⟨_, (wk W (.laysFinal "java/lang/String" "java/lang/String" "coder" "B"))⟩) (Or.inl ⟨rfl, hnm⟩) f2 (Or.inl rfl) hB11 (t := .byte) (by decide +kernel) rfl (g := (mkF m 48 #[.val (.ref a), .val (.ref b), .val (.int (Int32.ofNat o)), .val (.int (Int32.ofNat len)), .val .null, .val (.ref s.heap.size)] [.int 0, .ref a])) rfl (rest := []) rfl (hb hbytes d48)
  have c14 : Steps p.tables e below (s₁.setTop (entryFrame m #[.ref a, .ref b, .int (Int32.ofNat o), .int (Int32.ofNat len), .null] 6)) (T13.setTop (mkF m 54 #[.val (.ref a), .val (.ref b), .val (.int (Int32.ofNat o)), .val (.int (Int32.ofNat len)), .val .null, .val (.ref s.heap.size)] [.ref s.heap.size, .ref a])) := (c12.trans (st13 _ (Steps.refl _))).trans (by
    refine XS.aloadN X13.here hexec rfl (hb hbytes d51) rfl rfl ?_
    refine XS.aload X13.here hexec rfl (hb hbytes d52) rfl rfl ?_
    exact Steps.refl _)
  obtain ⟨T15, X15, p15, bl15, sl15, st15⟩ := X13.finit hexec hown (wk W (.fieldLink "java/lang/String" 9 "java/lang/String" "value" "[B")) (Or.inr ⟨_, (wk W (.laysFinal "java/lang/String" "java/lang/String" "value" "[B"))⟩) (Or.inl ⟨rfl, hnm⟩) f1 (Or.inl rfl) bl13 (t := (.array .byte)) (by decide +kernel) rfl (g := (mkF m 54 #[.val (.ref a), .val (.ref b), .val (.int (Int32.ofNat o)), .val (.int (Int32.ofNat len)), .val .null, .val (.ref s.heap.size)] [.ref s.heap.size, .ref a])) rfl (rest := []) rfl (hb hbytes d54)
  have c16 : Steps p.tables e below (s₁.setTop (entryFrame m #[.ref a, .ref b, .int (Int32.ofNat o), .int (Int32.ofNat len), .null] 6)) (T15.setTop (mkF m 57 #[.val (.ref a), .val (.ref b), .val (.int (Int32.ofNat o)), .val (.int (Int32.ofNat len)), .val .null, .val (.ref s.heap.size)] [])) := c14.trans (st15 _ (Steps.refl _))
  have ap := apart (Or.inr ⟨_, (wk W (.laysFinal "java/lang/String" "java/lang/String" "value" "[B"))⟩) (Or.inr ⟨_, (wk W (.laysFinal "java/lang/String" "java/lang/String" "coder" "B"))⟩) f1 f2 (t₁ := .array .byte) (t₂ := .byte) (by decide +kernel) (by decide +kernel) (by decide)
  have al := X8.warmed.alike.symm.trans X15.warmed.alike
  have n7 : T11.heap[s.heap.size]? = some N := by rw [q11]; exact n1.1
  exact ⟨T15, none, _, _, _, X15, by simp, rfl, by omega, (fun _ => rfl), ⟨rfl, _, N, bl15, ((Same.refl D _).set _ (by simp)).set _ (by simp), sl15, (Cell.slots_setSlot_ne _ ap).trans sl13, n1.keep al (p15.other hne (p13.other hne n7)), n2, by rw [al.findClass]; exact n3, n4, n5, fun y c h1 h2 => p15.other h1 (p13.other h1 (by rw [q11]; exact n6 y c h2)), by rw [p15.2.2, p13.2.2, q11]; exact z8⟩, fun fs hl => c16.trans (X15.returnOut hexec hret (hb hbytes d57) hl)⟩
end New4
namespace New1
def yN : MethodName := ⟨"java/lang/String", "<init>", "([C)V"⟩
abbrev yB : ByteArray := jdk_42_method_3_code
theorem d0 : decode yB 0 = .ok (.aload_n 0, 1) := by decide +kernel
theorem d1 : decode yB 1 = .ok (.aload_n 1, 1) := by decide +kernel
theorem d2 : decode yB 2 = .ok (.iconst 0, 1) := by decide +kernel
theorem d3 : decode yB 3 = .ok (.aload_n 1, 1) := by decide +kernel
theorem d4 : decode yB 4 = .ok (.arraylength, 1) := by decide +kernel
theorem d5 : decode yB 5 = .ok (.aconst_null, 1) := by decide +kernel
theorem d6 : decode yB 6 = .ok (.invokespecial 27, 3) := by decide +kernel
theorem d9 : decode yB 9 = .ok (.return_, 1) := by decide +kernel
def site : List Cond := [New4.tab] ++ initW "java/lang/String" 27 New4.yN
def tab : Cond := tabOf yN yB 2 none site
def P (a : Addr) (D : Cell) (fV fC : Field) (b : Addr) (A : Cell) (z : Int32) (args : Array Value) (s : State) : Prop := args = #[.ref a, .ref b] ∧ Blank "java/lang/String" a D s ∧ Found "java/lang/String" "value" "[B" fV s ∧ Found "java/lang/String" "coder" "B" fC s ∧ Ch b A s ∧ StaticIs s "java/lang/String" "COMPACT_STRINGS" "Z" (.int z) ∧ ¬ z = 0 ∧ 0 < A.slots.size ∧ A.slots.size ≤ 536870912 ∧ ∀ i, i < A.slots.size → ¬ 255 < cv A i
def E (a : Addr) (D : Cell) (fV fC : Field) (A : Cell) (r : Option Value) (s u : State) : Prop := Got a D fV fC A 0 A.slots.size r s u
/-- new String(chars), not empty, no char above 255: a Latin-1 String of their low bytes -/
theorem law (l : Launch) (a : Addr) (D : Cell) (fV fC : Field) (b : Addr) (A : Cell) (z : Int32) : Law l yN 2 1 3 52 yB 2 none site (P a D fV fC b A z) (E a D fV fC A) [⟨a, fC.slot⟩, ⟨a, fV.slot⟩] 1 A.slots.size := by
  refine Law.of_walk (plainFor_of_name (by decide +kernel)) (by decide +kernel) (by decide +kernel) (by decide) (fun _ _ h => by rw [h.1]; rfl) (fun _ U U' hal hh h => ⟨h.1, h.2.1.mv hal hh, h.2.2.1.al hal, h.2.2.2.1.al hal, h.2.2.2.2.1.mv hal hh, h.2.2.2.2.2.1.there hal hh, h.2.2.2.2.2.2⟩) (fun r U U' V V' h1 hal h2 h => Got.mv r U U' V V' h1 hal h2 h) ?_
  intro p e s m args below meth c s₁ X0 hexec hbytes hml hret hlk hnm hown hh0 W hP
  obtain ⟨rfl, hB, f1, f2, hA, s1, hz, l0, l2, hp⟩ := hP
  have c1 : Steps p.tables e below (s₁.setTop (entryFrame m #[.ref a, .ref b] 2)) (s₁.setTop (mkF m 0 #[.val (.ref a), .val (.ref b)] [])) := entry rfl
  have c2 : Steps p.tables e below (s₁.setTop (entryFrame m #[.ref a, .ref b] 2)) (s₁.setTop (mkF m 6 #[.val (.ref a), .val (.ref b)] [.null, .int (Int32.ofNat A.slots.size), .int 0, .ref b, .ref a])) := c1.trans (by
    refine XS.aloadN X0.here hexec rfl (hb hbytes d0) rfl rfl ?_
    refine XS.aloadN X0.here hexec rfl (hb hbytes d1) rfl rfl ?_
    refine iconstV X0.here hexec rfl 0 (hb hbytes d2) (by decide) ?_
    refine XS.aloadN X0.here hexec rfl (hb hbytes d3) rfl rfl ?_
    refine X0.alen hexec (hA.1.mv X0.warmed.alike hh0) rfl rfl (hb hbytes d4) ?_
    refine XS.aconstNull X0.here hexec rfl (hb hbytes d5) ?_
    exact Steps.refl _)
  obtain ⟨v3, T3, X3, E3, g3⟩ := X0.callN hexec (New4.law l a D fV fC b A z 0 A.slots.size) rfl hown (wks W (initW "java/lang/String" 27 New4.yN)) (W New4.tab (by simp only [site, List.mem_cons, List.mem_append, true_or, or_true])) (W := 0) (Nat.le_of_ble_eq_true rfl) (Nat.le_of_ble_eq_true rfl) (Nat.le_refl _) (by show 0 + A.slots.size ≤ A.slots.size; omega) (g := (mkF m 6 #[.val (.ref a), .val (.ref b)] [.null, .int (Int32.ofNat A.slots.size), .int (Int32.ofNat 0), .ref b, .ref a])) rfl (by rw [hml]; rfl) c2 (argsL := [.ref b, .int (Int32.ofNat 0), .int (Int32.ofNat A.slots.size), .null]) (rest := []) rfl rfl (by show 2 * 0 + 0 ≤ _; decide) (hb hbytes d6) (⟨rfl, hB.mv X0.warmed.alike hh0, f1.al X0.warmed.alike, f2.al X0.warmed.alike, hA.mv X0.warmed.alike hh0, s1.there X0.warmed.alike hh0, hz, l0, by omega, l2, fun i hi => by rw [Nat.zero_add]; exact hp i hi⟩)
  have e0 := Got.mv _ s₁ s _ _ hh0.symm (Vm.Alike.refl _) rfl E3
  obtain rfl := e0.1
  have c4 : Steps p.tables e below (s₁.setTop (entryFrame m #[.ref a, .ref b] 2)) (T3.setTop (mkF m 9 #[.val (.ref a), .val (.ref b)] [])) := g3
  exact ⟨T3, none, _, _, _, X3, by simp, rfl, by omega, (fun _ => rfl), e0, fun fs hl => c4.trans (X3.returnOut hexec hret (hb hbytes d9) hl)⟩
theorem pays {l : Launch} {R : Room} {p : Program} {e : Env} {below : List Frame} {s : State} {sargs : Array Value} {len W : Nat} (a : Addr) (D : Cell) (fV fC : Field) (b : Addr) (A : Cell) (z : Int32) (htab : tab.before sargs s = true) (hfr : 4 ≤ R.frames) (hlo : W + 65 ≤ R.locals) :
    Back l R p e below s sargs yN len W (fun A₁ a₁ => A₁.cells + 1 ≤ R.cells ∧ A₁.slots + A.slots.size ≤ R.slots ∧ P a D fV fC b A z a₁ A₁.U) (fun A₁ _ v₁ B₁ => E a D fV fC A v₁ A₁.U B₁.U ∧ B₁.locs = A₁.locs ++ [⟨a, fC.slot⟩, ⟨a, fV.slot⟩] ∧ B₁.cells = A₁.cells + 1 ∧ B₁.slots = A₁.slots + A.slots.size) :=
  (law l a D fV fC b A z).pays htab hfr (by omega)
end New1
/-- the byte, read back as charAt reads it, is the char -/
theorem lo8_mask {x : Int32} (h0 : ¬ x < 0) (h1 : ¬ 255 < x) : lo8 x &&& 255 = x := by
  have t : ∀ k : Fin 256, lo8 (Int32.ofNat k.val) &&& 255 = Int32.ofNat k.val := by decide +kernel
  rw [Int32.lt_iff_toInt_lt] at h0 h1
  have e0 : (0 : Int32).toInt = 0 := rfl
  have e1 : (255 : Int32).toInt = 255 := rfl
  obtain ⟨k, hk⟩ : ∃ k : Nat, x.toInt = k := ⟨x.toInt.toNat, by omega⟩
  have hx : x = Int32.ofNat k := Int32.toInt_inj.mp (by rw [hk, Int32.toInt_ofNat_small (by omega)])
  rw [hx]
  exact t ⟨k, by omega⟩
end StrChars
namespace StrChars.Road
open Jvm Sem ClassFile Op Lib Jvm.Stand Jvm.Free Jvm.Free.XT
open Jvm.Lib.Cold (StaticIs)
abbrev ST : String := "java/lang/String"
/-- every table word that New1's law asks, flat -/
abbrev words : List Jvm.Cond := [.code New1.yN New1.yB 2 none, .initialized ST, .methodLink ST 27 New4.yN, .instanceMethod New4.yN,
  .code New4.yN New4.yB 6 none, .fieldLink ST 38 ST "COMPACT_STRINGS" "Z", .laysFinal ST ST "value" "[B", .fieldLink ST 9 ST "value" "[B", .laysFinal ST ST "coder" "B", .fieldLink ST 15 ST "coder" "B",
  .methodLink ST 1 Lib.objectInit, .instanceMethod Lib.objectInit, .code Lib.objectInit ⟨#[0xb1]⟩ 1 none, .methodLink ST 177 Cmp3.yN, .static Cmp3.yN, .methodLink ST 47 CodL.yN, .static CodL.yN,
  .code Cmp3.yN Cmp3.yB 6 (some (.array .byte)), .initialized U16, .arrayClass .byte, .methodLink U16 115 Cmp5.yN, .static Cmp5.yN, .code Cmp5.yN Cmp5.yB 7 (some .int), .code CodL.yN CodL.yB 2 (some .byte)]
theorem tab_of {a : Array Value} {s : State} (h : ∀ w ∈ words, w.before a s = true) : New1.tab.before a s = true := by
  have h5 : Cmp5.tab.before a s = true := unparts (wk h (.code Cmp5.yN Cmp5.yB 7 (some .int))) (wks h (.initialized Cmp5.yN.cls :: Cmp5.site))
  have hc : CodL.tab.before a s = true := unparts (wk h (.code CodL.yN CodL.yB 2 (some .byte))) (wks h (.initialized CodL.yN.cls :: CodL.site))
  have q5 : ∀ w ∈ Cmp5.tab :: words, w.before a s = true := fun w hw => (List.mem_cons.mp hw).elim (fun e => e ▸ h5) (h w)
  have h3 : Cmp3.tab.before a s = true := unparts (wk q5 (.code Cmp3.yN Cmp3.yB 6 (some (.array .byte)))) (wks q5 (.initialized Cmp3.yN.cls :: Cmp3.site))
  have q3 : ∀ w ∈ Cmp3.tab :: CodL.tab :: words, w.before a s = true := fun w hw => (List.mem_cons.mp hw).elim (fun e => e ▸ h3) fun hw => (List.mem_cons.mp hw).elim (fun e => e ▸ hc) (h w)
  have h4 : New4.tab.before a s = true := unparts (wk q3 (.code New4.yN New4.yB 6 none)) (wks q3 (.initialized New4.yN.cls :: New4.site))
  have q4 : ∀ w ∈ New4.tab :: words, w.before a s = true := fun w hw => (List.mem_cons.mp hw).elim (fun e => e ▸ h4) (h w)
  exact unparts (wk q4 (.code New1.yN New1.yB 2 none)) (wks q4 (.initialized New1.yN.cls :: New1.site))
/-- the words ride from the start Z to the walk's own state -/
theorem moved {Z s : State} {a0 args : Array Value} (hZ : Z.Warmed39 s.vm) (hw : ∀ d ∈ words, d.before a0 Z = true) : ∀ d ∈ words, d.before args s = true := fun d hd => by
  have q := hw d hd
  have t : ∀ d ∈ words, d = .arrayClass .byte ∨ (d.onTables && d.keepsFace) = true := by decide +kernel
  rcases t d hd with rfl | t
  · exact RoadKit.mvA hZ q
  · exact RoadKit.mv hZ q t
/-- WHAT COMES BACK, over the tables of the start Z: h the heap at the call, h' behind it -/
def Q (Z : State) (x : Addr) (A : Cell) (h : Heap) (v : Option Value) (h' : Heap) (L : List Loc) : Prop := v = none ∧ (∀ y ∈ L, y.base = x) ∧ RoadKit.Keep h h' [x] ∧ h'.size = h.size + 1 ∧ RoadKit.Exa Z h' x ST ∧ RoadKit.Fld Z h' x ST "value" "[B" (.ref h.size) ∧ RoadKit.Fld Z h' x ST "coder" "B" (.int 0) ∧
  (∃ V : Cell, RoadKit.Arr Z h' h.size V .byte ∧ V.vm = .none ∧ Z.vm.findClass "[B" = some V.cls ∧ V.slots.size = A.slots.size ∧ ∀ j, j < A.slots.size → V.slots[j]? = some (.int (lo8 (cv A j)))) ∧
  ∀ (O n d : String) (w : Value), RoadKit.Fld Z h x O n d w → RoadKit.slotOf Z O n d ≠ RoadKit.slotOf Z ST "value" "[B" → RoadKit.slotOf Z O n d ≠ RoadKit.slotOf Z ST "coder" "B" → RoadKit.Fld Z h' x O n d w
/-- **new String(chars) AT A CALL, IN THE ROAD'S FORM**: for specialBack behind newO: x the fresh String, b the char[] with the cell A -/
theorem back {p : Program} {l : Launch} {e : Env} {R : Room} {s : State} {args : Array Value} {below : List Frame} {len W : Nat} {Z : State} {a0 : Array Value} {h : Heap} (hZ : Z.Warmed39 s.vm) (hw : ∀ d ∈ words, d.before a0 Z = true) {kI : Nat} (wi : (Jvm.Cond.instantiable ST kI).before a0 Z = true)
    {x b : Addr} {A : Cell} {z : Int32} {v0 c0 : Value} (E : RoadKit.Exa Z h x ST) (V : RoadKit.Fld Z h x ST "value" "[B" v0) (C : RoadKit.Fld Z h x ST "coder" "B" c0) (K : RoadKit.Arr Z h b A .char) (hty : Typed .char A) (S : RoadKit.Sta Z h ST "COMPACT_STRINGS" "Z" (.int z)) (hz : ¬ z = 0)
    (l0 : 0 < A.slots.size) (l2 : A.slots.size ≤ 536870912) (hp : ∀ i, i < A.slots.size → ¬ 255 < cv A i) (hfr : 4 ≤ R.frames) (hlo : W + 65 ≤ R.locals) :
    Back l R p e below s args New1.yN len W (fun P a => a = #[.ref x, .ref b] ∧ P.U.heap = h ∧ P.cells + 1 ≤ R.cells ∧ P.slots + A.slots.size ≤ R.slots)
      (fun P _ v B => ∃ L, Q Z x A h v B.U.heap L ∧ B.locs = P.locs ++ L ∧ B.cells = P.cells + 1 ∧ B.slots = P.slots + A.slots.size) := by
  intro m meth c P g ig mk a X hg hsize hdg hW hn hp'
  obtain ⟨rfl, rfl, r1, r2⟩ := hp'
  have al : Z.vm.Alike P.U.vm := hZ.alike.trans X.warmed.alike
  obtain ⟨D, cfV, kV, iV, fV, hD, gV, stV, knV, obV, asV, slV⟩ := id V
  obtain ⟨D', cfC, kC, iC, fC, hD', gC, stC, -, -, asC, slC⟩ := id C
  cases hD.symm.trans hD'
  obtain ⟨D2, kD, e1, e2, e3, e4, e5⟩ := id E
  cases hD.symm.trans e1
  obtain ⟨c2, k2, i1, i2, i3, -⟩ := Cond.instantiable_spec wi
  cases e2.symm.trans i1
  cases e3.symm.trans i2
  obtain ⟨kU, u1, u2⟩ := al.2.2 _ _ e3
  have hB : Blank ST x D P.U := ⟨hD, ⟨knV, fun q hq => by rw [hq] at obV; cases obV⟩, by rw [al.findClass]; exact e2, kU, u1, by rw [u2]; exact i3, by rw [u2]; exact e5 i3⟩
  have F1 : Found ST "value" "[B" fV P.U := ⟨SBG.found_only al ⟨cfV, kV, iV, gV⟩, stV⟩
  have F2 : Found ST "coder" "B" fC P.U := ⟨SBG.found_only al ⟨cfC, kC, iC, gC⟩, stC⟩
  have hA : Ch b A P.U := ⟨⟨K.1, State.isArrayOf_alike al K.2.1, K.2.2, by omega⟩, hty⟩
  have hS : StaticIs P.U ST "COMPACT_STRINGS" "Z" (.int z) := by
    obtain ⟨cfS, iS, kS, fS, st, cS, t1, t2, t3, t4, t5, t6, t7⟩ := S
    exact StaticIs.there (s := { Z with heap := P.U.heap }) ⟨cfS, iS, kS, fS, st, cS, t1, t2, t3, t4, t5, (fun q => by rw [q] at t6; cases t6), t7⟩ al rfl
  obtain ⟨v, B, X', ⟨⟨hv, E', V', q1, q2, q3, q4, q5, q6, q7, q8, q9, q10, q11⟩, hl, hc, hs⟩, st⟩ := New1.pays x D fV fC b A z (tab_of (moved hZ hw)) hfr hlo m meth c P g ig mk _ X hg hsize hdg hW hn ⟨r1, r2, rfl, hB, F1, F2, hA, hS, hz, l0, l2, hp⟩
  have al' : Z.vm.Alike B.U.vm := hZ.alike.trans X'.warmed.alike
  have hsz : E'.slots.size = D.slots.size := by
    obtain ⟨-, -, -, kB, w1, w2, w3⟩ := q1
    obtain ⟨kB', y1, y2⟩ := al'.2.2 _ _ e3
    rw [q2.2.1] at w1
    cases w1.symm.trans y1
    rw [w3, e5 i3, y2]
  refine ⟨v, B, X', ⟨_, ⟨hv, ?_, ⟨by omega, fun y cy hy hn' => q10 y cy (by simpa using hn') hy, fun y cy hy => ?_⟩, q11, ⟨E', _, q1.1, by rw [q2.2.1]; exact e2, by rw [q2.2.1]; exact e3, by rw [q2.1]; exact obV, fun _ => by rw [hsz]; exact e5 i3⟩,
    ⟨E', cfV, kV, iV, fV, q1.1, gV, stV, by rw [q2.1]; exact knV, by rw [q2.1]; exact obV, by rw [q2.2.1]; exact asV, q3⟩, ⟨E', cfC, kC, iC, fC, q1.1, gC, stC, by rw [q2.1]; exact knV, by rw [q2.1]; exact obV, by rw [q2.2.1]; exact asC, q4⟩,
    ⟨V', ⟨q5.1, State.isArrayOf_alike al'.symm q5.2.1, q5.2.2.1⟩, q6, by rw [← al'.findClass]; exact q7, q8, fun j hj => by have := q9 j hj; rwa [Nat.zero_add] at this⟩, fun O n d w F n1 n2 => ?_⟩, hl, hc, hs⟩, st⟩
  · intro y hy
    simp only [List.mem_cons, List.not_mem_nil, or_false] at hy
    rcases hy with rfl | rfl <;> rfl
  · by_cases q : y = x
    · subst q
      cases hD.symm.trans hy
      exact ⟨E', q1.1, q2.2.1, q2.1, hsz⟩
    · exact ⟨cy, q10 y cy q hy, rfl, rfl, rfl⟩
  · obtain ⟨D3, cf, k, i, f, g1, g2, g3, g4, g5, g6, g7⟩ := F
    cases hD.symm.trans g1
    simp only [RoadKit.slotOf, g2, gV, gC, Option.map_some, Option.getD_some] at n1 n2
    exact ⟨E', cf, k, i, f, q1.1, g2, g3, by rw [q2.1]; exact g4, by rw [q2.1]; exact g5, by rw [q2.2.1]; exact g6, by rw [q2.2.2 f.slot (by simp [n1, n2])]; exact g7⟩
end StrChars.Road
namespace StrChars.Road
open Jvm Sem ClassFile Op Lib Jvm.Stand Jvm.Free Jvm.Free.XT
/-- WHAT COMES BACK, the byte[] as a list of values -/
def QA (Z : State) (x : Addr) (zn : Int32) (cs : List Int32) (h : Heap) (v : Option Value) (h' : Heap) (L : List Loc) : Prop := v = none ∧ (∀ y ∈ L, y.base = x) ∧ RoadKit.Keep h h' [x] ∧ h'.size = h.size + 1 ∧ RoadKit.Exa Z h' x ST ∧ RoadKit.Fld Z h' x ST "value" "[B" (.ref h.size) ∧ RoadKit.Fld Z h' x ST "coder" "B" (.int 0) ∧
  (∃ kb, Z.vm.findClass "[B" = some kb ∧ RoadKit.Arv Z h' h.size kb .byte zn (cs.map fun c => .int (lo8 c)) (.int 0)) ∧
  ∀ (O n d : String) (w : Value), RoadKit.Fld Z h x O n d w → RoadKit.slotOf Z O n d ≠ RoadKit.slotOf Z ST "value" "[B" → RoadKit.slotOf Z O n d ≠ RoadKit.slotOf Z ST "coder" "B" → RoadKit.Fld Z h' x O n d w
/-- **new String(chars) AT A CALL, THE ARRAYS AS LISTS**: the char[] at b holds cs, not empty, no char above 255 -/
theorem backArv {p : Program} {l : Launch} {e : Env} {R : Room} {s : State} {args : Array Value} {below : List Frame} {len W : Nat} {Z : State} {a0 : Array Value} {h : Heap} (hZ : Z.Warmed39 s.vm) (hw : ∀ d ∈ words, d.before a0 Z = true) {kI : Nat} (wi : (Jvm.Cond.instantiable ST kI).before a0 Z = true)
    {x b : Addr} {k : ClassId} {zn z : Int32} {cs : List Int32} {dv v0 c0 : Value} (E : RoadKit.Exa Z h x ST) (V : RoadKit.Fld Z h x ST "value" "[B" v0) (C : RoadKit.Fld Z h x ST "coder" "B" c0) (K : RoadKit.Arv Z h b k .char zn (cs.map Value.int) dv) (S : RoadKit.Sta Z h ST "COMPACT_STRINGS" "Z" (.int z)) (hz : ¬ z = 0)
    (hlen : zn.toNatClampNeg = cs.length) (h0 : 0 < cs.length) (hbig : cs.length ≤ 536870912) (hall : ∀ c ∈ cs, ¬ 255 < c) (hfr : 4 ≤ R.frames) (hlo : W + 65 ≤ R.locals) :
    Back l R p e below s args New1.yN len W (fun P a => a = #[.ref x, .ref b] ∧ P.U.heap = h ∧ P.cells + 1 ≤ R.cells ∧ P.slots + cs.length ≤ R.slots)
      (fun P _ v B => ∃ L, QA Z x zn cs h v B.U.heap L ∧ B.locs = P.locs ++ L ∧ B.cells = P.cells + 1 ∧ B.slots = P.slots + cs.length) := by
  obtain ⟨A, K1, K2, K3, K4, K5, K6⟩ := K
  have e : A.slots.size = cs.length := K3.trans hlen
  have hat : ∀ (i : Nat) (hi : i < cs.length), A.slots[i]? = some (.int cs[i]) := fun i hi => by rw [K5 i (by omega)]; simp [List.getD_eq_getElem?_getD, hi]
  have hcv : ∀ (i : Nat) (hi : i < cs.length), cv A i = cs[i] := fun i hi => by unfold cv; rw [hat i hi]
  have hty : Typed .char A := fun i v hv => by
    have hi : i < A.slots.size := (Array.getElem?_eq_some_iff.mp hv).1
    have q := K5 i hi
    rw [hv] at q
    rw [Option.some.inj q]
    exact K6 i hi
  refine Back.mono (back hZ hw wi E V C K1 hty S hz (by omega) (by omega) (fun i hi => by rw [hcv i (by omega)]; exact hall _ (List.getElem_mem _)) hfr hlo) (fun P a hp => ⟨hp.1, hp.2.1, hp.2.2.1, by rw [e]; exact hp.2.2.2⟩) (fun P a v B hp hq => ?_)
  obtain ⟨L, ⟨q1, q2, q3, q4, q5, q6, q7, ⟨V', v1, v2, v3, v4, v5⟩, q9⟩, hl, hc, hs⟩ := hq
  refine ⟨L, ⟨q1, q2, q3, q4, q5, q6, q7, ⟨V'.cls, v3, V', v1, rfl, by rw [v4, e, hlen], K4, fun i hi => ?_, fun i hi => ?_⟩, q9⟩, hl, hc, by rw [hs, e]⟩
  · have hi' : i < cs.length := by omega
    rw [v5 i (by omega), hcv i hi']; simp [List.getD_eq_getElem?_getD, hi']
  · have hi' : i < cs.length := by omega
    simp only [List.getD_eq_getElem?_getD, List.getElem?_map, List.getElem?_eq_getElem hi', Option.map_some, Option.getD_some]
    exact fits_lo8 _
end StrChars.Road
namespace StrChars.Road
open Jvm Sem ClassFile Op Lib Jvm.Stand Jvm.Free Jvm.Free.XT
/-- WHAT COMES BACK, in the writer's own shape -/
def QV (Z : State) (x : Addr) (N : Int32) (bs : List Int32) (h : Heap) (n0 : Nat) (v : Option Value) (h' : Heap) (L : List Loc) : Prop := v = none ∧ RoadKit.Fr n0 L ∧ RoadKit.Keep h h' [x] ∧ RoadKit.Exa Z h' x ST ∧ RoadKit.Fld Z h' x ST "coder" "B" (.int 0) ∧
  ∃ (t : Addr) (kb : ClassId), n0 ≤ t ∧ h.size ≤ t ∧ ¬ t = x ∧ RoadKit.Fld Z h' x ST "value" "[B" (.ref t) ∧ RoadKit.Arv Z h' t kb .byte N (bs.map Value.int) (.int 0)
/-- **new String(chars) AT A CALL, FOR THE WRITER**: a char[] of n known ints, each 0 to 255 -/
theorem backV {p : Program} {l : Launch} {e : Env} {R : Room} {s : State} {args : Array Value} {below : List Frame} {len W : Nat} {Z : State} {a0 : Array Value} {h : Heap} (hZ : Z.Warmed39 s.vm) (hw : ∀ d ∈ words, d.before a0 Z = true) {kI : Nat} (wi : (Jvm.Cond.instantiable ST kI).before a0 Z = true)
    {x b : Addr} {kC : ClassId} {cs bs : List Int32} {d v0 c0 : Value} {z N : Int32} {n n0 : Nat} (hx0 : n0 ≤ x) (hh0 : n0 ≤ h.size) (E : RoadKit.Exa Z h x ST) (V : RoadKit.Fld Z h x ST "value" "[B" v0) (C : RoadKit.Fld Z h x ST "coder" "B" c0) (K : RoadKit.Arv Z h b kC .char N (cs.map Value.int) d) (S : RoadKit.Sta Z h ST "COMPACT_STRINGS" "Z" (.int z)) (hz : ¬ z = 0)
    (hn : cs.length = n) (hN : N = Int32.ofNat n) (l0 : 0 < n) (l2 : n ≤ 4000) (hp : ∀ c ∈ cs, ¬ c < 0 ∧ ¬ (255 : Int32) < c) (hb : bs = cs.map (fun c => c.toInt8.toInt32)) (hfr : 4 ≤ R.frames) (hlo : W + 65 ≤ R.locals) :
    Back l R p e below s args (⟨"java/lang/String", "<init>", "([C)V"⟩ : MethodName) len W (fun P a => a = #[.ref x, .ref b] ∧ P.U.heap = h ∧ P.cells + 1 ≤ R.cells ∧ P.slots + n ≤ R.slots)
      (fun P _ v B => ∃ L, QV Z x N bs h n0 v B.U.heap L ∧ B.locs = P.locs ++ L ∧ B.cells = P.cells + 1 ∧ B.slots = P.slots + n) := by
  subst hn hN hb
  refine Back.mono (backArv hZ hw wi E V C K S hz (n32 (by omega)) l0 (by omega) (fun c hc => (hp c hc).2) hfr hlo) (fun P a hp => hp) (fun P a v B hp hq => ?_)
  obtain ⟨L, ⟨q1, q2, q3, q4, q5, q6, q7, ⟨kb, v1, v2⟩, q9⟩, hl, hc, hs⟩ := hq
  exact ⟨L, ⟨q1, fun y hy => by rw [q2 y hy]; exact hx0, q3, q5, q7, h.size, kb, hh0, Nat.le_refl _, Nat.ne_of_gt E.lt, q6, by rw [List.map_map]; exact v2⟩, hl, hc, hs⟩
end StrChars.Road
namespace StrChars
open Jvm Sem ClassFile Op Lib Jvm.Stand Jvm.Free.XT Jvm.Free.ALB Jvm.Free.JM Jvm.Free
open Jvm.Lib.Cold (StaticIs)
def hi8 (x : Int32) : Int32 := lo8 (x >>> ((8 : Int32) &&& 31))
/-- what StringUTF16.getChar makes of two bytes -/
def pairCh (u v : Int32) : Int32 := (((u &&& 255) <<< ((0 : Int32) &&& 31)) ||| ((v &&& 255) <<< ((8 : Int32) &&& 31))).toUInt32.toUInt16.toUInt32.toInt32
theorem lo8_and (x : Int32) : (lo8 x &&& 255).toBitVec.toNat = x.toBitVec.toNat % 256 := by
  have h : (lo8 x).toBitVec = (x.toBitVec.signExtend 8).signExtend 32 := by rw [lo8, Int8.toBitVec_toInt32, Int32.toBitVec_toInt8]
  rw [Int32.toBitVec_and, BitVec.toNat_and, h]
  have e : ((x.toBitVec.signExtend 8).signExtend 32).toNat % 256 = x.toBitVec.toNat % 256 := by
    rw [BitVec.toNat_signExtend]
    have hlt := x.toBitVec.isLt
    simp only [BitVec.toNat_setWidth, BitVec.toNat_signExtend]
    split <;> split <;> omega
  rw [← e]
  exact Nat.and_two_pow_sub_one_eq_mod _ 8
theorem pair_says {c : Int32} (h0 : ¬ c < 0) (h1 : ¬ 65535 < c) : pairCh (lo8 c) (hi8 c) = c := by
  rw [Int32.lt_iff_toInt_lt] at h0 h1
  have e0 : (0 : Int32).toInt = 0 := rfl
  have e1 : (65535 : Int32).toInt = 65535 := rfl
  have hc : c.toInt = c.toBitVec.toNat := by
    have := c.toBitVec.isLt
    have e : c.toInt = c.toBitVec.toInt := rfl
    rw [e] at h0 h1
    rw [e]
    rw [BitVec.toInt_eq_toNat_cond] at h0 h1 ⊢
    split at h0 <;> split <;> omega
  have hn : c.toBitVec.toNat < 65536 := by omega
  have a1 := lo8_and c
  have a2 : (hi8 c &&& 255).toBitVec.toNat = c.toBitVec.toNat / 256 := by
    rw [hi8, lo8_and]
    have e : ((8 : Int32) &&& 31) = 8 := by decide
    rw [e, Int32.toBitVec_shiftRight]
    have e2 : ((8 : Int32).toBitVec.smod 32) = 8#32 := by decide
    rw [e2, BitVec.sshiftRight_eq', BitVec.toNat_sshiftRight_of_msb_false (by rw [BitVec.msb_eq_false_iff_two_mul_lt]; omega)]
    show c.toBitVec.toNat >>> 8 % 256 = _
    rw [Nat.shiftRight_eq_div_pow]
    omega
  unfold pairCh
  apply Int32.toBitVec_inj.mp
  apply BitVec.eq_of_toNat_eq
  have f0 : ((0 : Int32) &&& 31) = 0 := by decide
  have f8 : ((8 : Int32) &&& 31) = 8 := by decide
  rw [f0, f8]
  have g : (((lo8 c &&& 255) <<< (0 : Int32)) ||| ((hi8 c &&& 255) <<< (8 : Int32))).toBitVec.toNat = c.toBitVec.toNat := by
    rw [Int32.toBitVec_or, Int32.toBitVec_shiftLeft, Int32.toBitVec_shiftLeft]
    have s0 : ((0 : Int32).toBitVec.smod 32) = 0#32 := by decide
    have s8 : ((8 : Int32).toBitVec.smod 32) = 8#32 := by decide
    rw [s0, s8, BitVec.toNat_or]
    simp only [BitVec.shiftLeft_eq', BitVec.toNat_shiftLeft, a1, a2]
    show (c.toBitVec.toNat % 256) <<< 0 % 2 ^ 32 ||| (c.toBitVec.toNat / 256) <<< 8 % 2 ^ 32 = _
    rw [Nat.shiftLeft_zero, Nat.mod_eq_of_lt (show c.toBitVec.toNat % 256 < 2 ^ 32 by omega), Nat.mod_eq_of_lt (show (c.toBitVec.toNat / 256) <<< 8 < 2 ^ 32 by rw [Nat.shiftLeft_eq]; omega), Nat.or_comm, ← Nat.shiftLeft_add_eq_or_of_lt (by omega), Nat.shiftLeft_eq]
    omega
  show BitVec.toNat (((((lo8 c &&& 255) <<< (0 : Int32)) ||| ((hi8 c &&& 255) <<< (8 : Int32))).toBitVec.setWidth 16).setWidth 32) = _
  rw [BitVec.toNat_setWidth, BitVec.toNat_setWidth, g]
  omega
end StrChars
namespace StrChars
open Jvm Sem ClassFile Op Lib Jvm.Stand Jvm.Free.XT Jvm.Free.ALB Jvm.Free.JM Jvm.Free
open Jvm.Lib.Cold (StaticIs)
/-- the array's cell V codes the n chars f 0 .. f (n - 1) by the coder cd, as the JDK does: coder 1 just where some char is above 255 -/
def Cod (cd : Int32) (n : Nat) (f : Nat → Int32) (V : Cell) : Prop := (cd = 0 ∧ V.slots.size = n ∧ ∀ j, j < n → V.slots[j]? = some (.int (lo8 (f j))) ∧ ¬ 255 < f j) ∨ (cd = 1 ∧ V.slots.size = 2 * n ∧ (∀ j, j < n → V.slots[2 * j]? = some (.int (lo8 (f j))) ∧ V.slots[2 * j + 1]? = some (.int (hi8 (f j)))) ∧ ∃ j, j < n ∧ 255 < f j)
/-- **x is a String of the n chars f 0 .. f (n - 1)**, Latin-1 or UTF-16; its array at t has the cell V -/
def Txt (x t : Addr) (V : Cell) (cd : Int32) (n : Nat) (f : Nat → Int32) (U : State) : Prop := Exact "java/lang/String" x U ∧ Has x "java/lang/String" "value" "[B" (.ref t) U ∧ Has x "java/lang/String" "coder" "B" (.int cd) U ∧ XT.Arr .byte t V U ∧ Cod cd n f V ∧ ∀ j, j < n → ¬ f j < 0 ∧ ¬ 65535 < f j
theorem Txt.mv {x t : Addr} {V : Cell} {cd : Int32} {n : Nat} {f : Nat → Int32} {U U' : State} (h : Txt x t V cd n f U) (hal : U.vm.Alike U'.vm) (hh : U'.heap = U.heap) : Txt x t V cd n f U' := ⟨h.1.mv hal hh, h.2.1.mv hal hh, h.2.2.1.mv hal hh, h.2.2.2.1.mv hal hh, h.2.2.2.2⟩
end StrChars
namespace StrChars.Road
open Jvm Sem ClassFile Op Lib Jvm.Stand Jvm.Free Jvm.Free.XT
open Jvm.Lib.Cold (StaticIs)
theorem consq {a : Array Value} {s : State} {c : Jvm.Cond} {L : List Jvm.Cond} (h0 : c.before a s = true) (h : ∀ w ∈ L, w.before a s = true) : ∀ w ∈ c :: L, w.before a s = true := fun w hw => (List.mem_cons.mp hw).elim (fun e => e ▸ h0) (h w)
/-- the bytes of the chars cs, low before high -/
def wideBytes : List Int32 → List Value
  | [] => []
  | c :: cs => .int (lo8 c) :: .int (hi8 c) :: wideBytes cs
theorem wide_lo (d : Value) : ∀ (cs : List Int32) (j : Nat), j < cs.length → (wideBytes cs).getD (2 * j) d = .int (lo8 (cs.getD j 0))
  | [], j, h => absurd h (Nat.not_lt_zero j)
  | c :: cs, 0, _ => rfl
  | c :: cs, j + 1, h => by
    have q := wide_lo d cs j (by simpa using h)
    rw [show 2 * (j + 1) = 2 * j + 1 + 1 from by omega]
    simpa [wideBytes] using q
theorem wide_hi (d : Value) : ∀ (cs : List Int32) (j : Nat), j < cs.length → (wideBytes cs).getD (2 * j + 1) d = .int (hi8 (cs.getD j 0))
  | [], j, h => absurd h (Nat.not_lt_zero j)
  | c :: cs, 0, _ => rfl
  | c :: cs, j + 1, h => by
    have q := wide_hi d cs j (by simpa using h)
    rw [show 2 * (j + 1) + 1 = 2 * j + 1 + 1 + 1 from by omega]
    simpa [wideBytes] using q
theorem low_at (d : Value) (cs : List Int32) (j : Nat) (h : j < cs.length) : (cs.map fun c => Value.int (lo8 c)).getD j d = .int (lo8 (cs.getD j 0)) := by
  simp [List.getD_eq_getElem?_getD, h]
/-- an array of N2 bytes vs codes the chars cs by the coder cd -/
def CodA (cs : List Int32) (cd N2 : Int32) (vs : List Value) : Prop := (cd = 0 ∧ N2 = Int32.ofNat cs.length ∧ vs = (cs.map fun c => Value.int (lo8 c)) ∧ ∀ c ∈ cs, ¬ 255 < c) ∨ (cd = 1 ∧ N2 = Int32.ofNat (2 * cs.length) ∧ vs = wideBytes cs ∧ ∃ c ∈ cs, 255 < c)
theorem CodA.cod {cs : List Int32} {cd N2 : Int32} {vs : List Value} {V : Cell} (h : CodA cs cd N2 vs) (hn : 2 * cs.length < 2 ^ 31) (hs : V.slots.size = N2.toNatClampNeg) (hv : RoadKit.Has V vs (.int 0)) : Cod cd cs.length (fun j => cs.getD j 0) V := by
  rcases h with ⟨rfl, rfl, rfl, h⟩ | ⟨rfl, rfl, rfl, c, hc, hw⟩
  · rw [n32 (by omega)] at hs
    exact Or.inl ⟨rfl, hs, fun j hj => ⟨by rw [hv j (by omega), low_at _ _ _ hj], by
      have e : cs.getD j 0 = cs[j] := by simp [List.getD_eq_getElem?_getD, hj]
      show ¬ 255 < cs.getD j 0
      rw [e]; exact h _ (List.getElem_mem _)⟩⟩
  · rw [n32 (by omega)] at hs
    obtain ⟨j, hj, rfl⟩ := List.getElem_of_mem hc
    exact Or.inr ⟨rfl, hs, fun j hj => ⟨by rw [hv _ (by omega), wide_lo _ _ _ hj], by rw [hv _ (by omega), wide_hi _ _ _ hj]⟩, j, hj, by
      have e : cs.getD j 0 = cs[j] := by simp [List.getD_eq_getElem?_getD, hj]
      show 255 < cs.getD j 0
      rw [e]; exact hw⟩
/-- an object of exactly java/lang/String, its two fields found: as the laws ask it -/
theorem strObj {Z U : State} {a0 : Array Value} {kI : Nat} (wi : (Jvm.Cond.instantiable ST kI).before a0 Z = true) (al : Z.vm.Alike U.vm) {x : Addr} {v0 c0 : Value} (E : RoadKit.Exa Z U.heap x ST) (V : RoadKit.Fld Z U.heap x ST "value" "[B" v0) (C : RoadKit.Fld Z U.heap x ST "coder" "B" c0) :
    ∃ (D : Cell) (fV fC : Field), Blank ST x D U ∧ Found ST "value" "[B" fV U ∧ Found ST "coder" "B" fC U ∧ D.slots[fV.slot]? = some v0 ∧ D.slots[fC.slot]? = some c0 ∧ RoadKit.slotOf Z ST "value" "[B" = fV.slot ∧ RoadKit.slotOf Z ST "coder" "B" = fC.slot := by
  obtain ⟨D, cfV, kV, iV, fV, hD, gV, stV, knV, obV, asV, slV⟩ := V
  obtain ⟨D', cfC, kC, iC, fC, hD', gC, stC, -, -, asC, slC⟩ := C
  cases hD.symm.trans hD'
  obtain ⟨D2, kD, e1, e2, e3, e4, e5⟩ := E
  cases hD.symm.trans e1
  obtain ⟨c2, k2, i1, i2, i3, -⟩ := Cond.instantiable_spec wi
  cases e2.symm.trans i1
  cases e3.symm.trans i2
  obtain ⟨kU, u1, u2⟩ := al.2.2 _ _ e3
  exact ⟨D, fV, fC, ⟨hD, ⟨knV, fun q hq => by rw [hq] at obV; cases obV⟩, by rw [al.findClass]; exact e2, kU, u1, by rw [u2]; exact i3, by rw [u2]; exact e5 i3⟩, ⟨SBG.found_only al ⟨cfV, kV, iV, gV⟩, stV⟩, ⟨SBG.found_only al ⟨cfC, kC, iC, gC⟩, stC⟩, slV, slC, by simp [RoadKit.slotOf, gV], by simp [RoadKit.slotOf, gC]⟩
theorem sta_is {Z U : State} (al : Z.vm.Alike U.vm) {C n d : String} {v : Value} (S : RoadKit.Sta Z U.heap C n d v) : StaticIs U C n d v := by
  obtain ⟨cfS, iS, kS, fS, st, cS, t1, t2, t3, t4, t5, t6, t7⟩ := S
  exact StaticIs.there (s := { Z with heap := U.heap }) ⟨cfS, iS, kS, fS, st, cS, t1, t2, t3, t4, t5, (fun q => by rw [q] at t6; cases t6), t7⟩ al rfl
end StrChars.Road
namespace StrChars
open Jvm Sem ClassFile Op Lib Jvm.Stand Jvm.Free.XT Jvm.Free.ALB Jvm.Free.JM Jvm.Free
open Jvm.Lib.Cold (StaticIs)
/-- what place i of a byte[]'s cell holds -/
def yv (A : Cell) (i : Nat) : Int32 := match A.slots[i]? with | some (.int x) => x | _ => 0
theorem yv_get {a : Addr} {A : Cell} {U : State} (h : XT.Arr .byte a A U) (ht : Typed .byte A) {i : Nat} (hi : i < A.slots.size) : A.slots[i]? = some (.int (yv A i)) := by
  have e := Array.getElem?_eq_getElem hi
  have f := ht i _ e
  unfold yv; rw [e]
  generalize A.slots[i] = v at f
  cases v <;> simp [fits] at f ⊢
/-- the two arrays are equal, place for place -/
def EqC (A B : Cell) : Prop := A.slots.size = B.slots.size ∧ ∀ i, i < A.slots.size → yv A i = yv B i
/-- a boolean that says whether p -/
def Says01 (q : Prop) (r : Option Value) (s u : State) : Prop := ∃ v : Int32, r = some (.int v) ∧ u.heap = s.heap ∧ ((v = 1 ∧ q) ∨ (v = 0 ∧ ¬ q))
theorem Says01.mv {q : Prop} : ∀ r (U U' V V' : State), U'.heap = U.heap → V.vm.Alike V'.vm → V'.heap = V.heap → Says01 q r U V → Says01 q r U' V' :=
  fun r U U' V V' h1 _ h2 ⟨v, a, b, c⟩ => ⟨v, a, by rw [h1, h2]; exact b, c⟩
namespace LEq
def yN : MethodName := ⟨"java/lang/StringLatin1", "equals", "([B[B)Z"⟩
abbrev yB : ByteArray := jdk_43_method_13_code
theorem d0 : decode yB 0 = .ok (.aload_n 0, 1) := by decide +kernel
theorem d1 : decode yB 1 = .ok (.arraylength, 1) := by decide +kernel
theorem d2 : decode yB 2 = .ok (.aload_n 1, 1) := by decide +kernel
theorem d3 : decode yB 3 = .ok (.arraylength, 1) := by decide +kernel
theorem d4 : decode yB 4 = .ok (.if_icmp (.ne) 30, 3) := by decide +kernel
theorem d7 : decode yB 7 = .ok (.iconst 0, 1) := by decide +kernel
theorem d8 : decode yB 8 = .ok (.istore_n 2, 1) := by decide +kernel
theorem d9 : decode yB 9 = .ok (.iload_n 2, 1) := by decide +kernel
theorem d10 : decode yB 10 = .ok (.aload_n 0, 1) := by decide +kernel
theorem d11 : decode yB 11 = .ok (.arraylength, 1) := by decide +kernel
theorem d12 : decode yB 12 = .ok (.if_icmp (.ge) 20, 3) := by decide +kernel
theorem d15 : decode yB 15 = .ok (.aload_n 0, 1) := by decide +kernel
theorem d16 : decode yB 16 = .ok (.iload_n 2, 1) := by decide +kernel
theorem d17 : decode yB 17 = .ok (.baload, 1) := by decide +kernel
theorem d18 : decode yB 18 = .ok (.aload_n 1, 1) := by decide +kernel
theorem d19 : decode yB 19 = .ok (.iload_n 2, 1) := by decide +kernel
theorem d20 : decode yB 20 = .ok (.baload, 1) := by decide +kernel
theorem d21 : decode yB 21 = .ok (.if_icmp (.eq) 5, 3) := by decide +kernel
theorem d24 : decode yB 24 = .ok (.iconst 0, 1) := by decide +kernel
theorem d25 : decode yB 25 = .ok (.ireturn, 1) := by decide +kernel
theorem d26 : decode yB 26 = .ok (.iinc 2 1, 3) := by decide +kernel
theorem d29 : decode yB 29 = .ok (.goto (-20), 3) := by decide +kernel
theorem d32 : decode yB 32 = .ok (.iconst 1, 1) := by decide +kernel
theorem d33 : decode yB 33 = .ok (.ireturn, 1) := by decide +kernel
theorem d34 : decode yB 34 = .ok (.iconst 0, 1) := by decide +kernel
theorem d35 : decode yB 35 = .ok (.ireturn, 1) := by decide +kernel
def site : List Cond := []
def tab : Cond := tabOf yN yB 3 (some .boolean) site
def P (a : Addr) (A : Cell) (b : Addr) (B : Cell) (args : Array Value) (s : State) : Prop := args = #[.ref a, .ref b] ∧ XT.Arr .byte a A s ∧ Typed .byte A ∧ XT.Arr .byte b B s ∧ Typed .byte B
/-- whether two byte[] are equal, place for place -/
theorem law (l : Launch) (a : Addr) (A : Cell) (b : Addr) (B : Cell) : Law l yN 2 2 0 0 yB 3 (some .boolean) site (P a A b B) (Says01 (EqC A B)) [] 0 0 := by
  refine Law.of_walk (plainFor_of_name (by decide +kernel)) (by decide +kernel) (by decide +kernel) (by decide) (fun _ _ h => by rw [h.1]; rfl) (fun _ U U' hal hh h => ⟨h.1, h.2.1.mv hal hh, h.2.2.1, h.2.2.2.1.mv hal hh, h.2.2.2.2⟩) (fun r U U' V V' h1 hal h2 h => Says01.mv r U U' V V' h1 hal h2 h) ?_
  intro p e s m args below meth c s₁ X0 hexec hbytes hml hret hlk hnm hown hh0 W hP
  obtain ⟨rfl, hA, tA, hB, tB⟩ := hP
  have a31 := hA.2.2.2
  have b31 := hB.2.2.2
  have hA0 := hA.mv X0.warmed.alike hh0
  have hB0 := hB.mv X0.warmed.alike hh0
  have c1 : Steps p.tables e below (s₁.setTop (entryFrame m #[.ref a, .ref b] 3)) (s₁.setTop (mkF m 0 #[.val (.ref a), .val (.ref b), .unset] [])) := entry rfl
  have c2 : Steps p.tables e below (s₁.setTop (entryFrame m #[.ref a, .ref b] 3)) (s₁.setTop (mkF m 4 #[.val (.ref a), .val (.ref b), .unset] [.int (Int32.ofNat B.slots.size), .int (Int32.ofNat A.slots.size)])) := c1.trans (by
    refine XS.aloadN X0.here hexec rfl (hb hbytes d0) rfl rfl ?_
    refine X0.alen hexec hA0 rfl rfl (hb hbytes d1) ?_
    refine XS.aloadN X0.here hexec rfl (hb hbytes d2) rfl rfl ?_
    refine X0.alen hexec hB0 rfl rfl (hb hbytes d3) ?_
    exact Steps.refl _)
  by_cases hs : A.slots.size = B.slots.size
  · have c3 : Steps p.tables e below (s₁.setTop (entryFrame m #[.ref a, .ref b] 3)) (s₁.setTop (mkF m 9 #[.val (.ref a), .val (.ref b), .val (.int 0)] [])) := c2.trans (by
      refine XS.icmpNo X0.here hexec rfl (hb hbytes d4) rfl (ii_ne_f (by rw [hs])) ?_
      refine iconstV X0.here hexec rfl 0 (hb hbytes d7) (by decide) ?_
      refine XS.istoreN X0.here hexec rfl (hb hbytes d8) rfl rfl ?_
      exact Steps.refl _)
    have loop : ∀ (r i : Nat), i + r = A.slots.size → (∀ j, j < i → yv A j = yv B j) → Steps p.tables e below (s₁.setTop (entryFrame m #[.ref a, .ref b] 3)) (s₁.setTop (mkF m 9 #[.val (.ref a), .val (.ref b), .val (.int (Int32.ofNat i))] [])) → ∃ (pc : Nat) (Ls : Array Slot) (v : Int32), (pc = 25 ∨ pc = 33) ∧ ((v = 1 ∧ EqC A B) ∨ (v = 0 ∧ ¬ EqC A B)) ∧ Steps p.tables e below (s₁.setTop (entryFrame m #[.ref a, .ref b] 3)) (s₁.setTop (mkF m pc Ls [.int v])) := by
      intro r
      induction r with
      | zero =>
        intro i hi he cl
        exact ⟨33, _, 1, Or.inr rfl, Or.inl ⟨rfl, hs, fun j hj => he j (by omega)⟩, cl.trans (by
          refine XS.iloadN X0.here hexec rfl (hb hbytes d9) rfl ?_
          refine XS.aloadN X0.here hexec rfl (hb hbytes d10) rfl rfl ?_
          refine X0.alen hexec hA0 rfl rfl (hb hbytes d11) ?_
          refine XS.icmpYes X0.here hexec rfl (pc0 := 12) rfl (hb hbytes d12) rfl (ii_ge_t (nlt32 (by omega) (by omega))) (by decide) rfl ?_
          refine iconstV X0.here hexec rfl 1 (hb hbytes d32) (by decide) ?_
          exact Steps.refl _)⟩
      | succ r ih =>
        intro i hi he cl
        have c4 : Steps p.tables e below (s₁.setTop (entryFrame m #[.ref a, .ref b] 3)) (s₁.setTop (mkF m 21 #[.val (.ref a), .val (.ref b), .val (.int (Int32.ofNat i))] [.int (yv B i), .int (yv A i)])) := cl.trans (by
          refine XS.iloadN X0.here hexec rfl (hb hbytes d9) rfl ?_
          refine XS.aloadN X0.here hexec rfl (hb hbytes d10) rfl rfl ?_
          refine X0.alen hexec hA0 rfl rfl (hb hbytes d11) ?_
          refine XS.icmpNo X0.here hexec rfl (hb hbytes d12) rfl (ii_ge_f (lt32 (by omega) (by omega))) ?_
          refine XS.aloadN X0.here hexec rfl (hb hbytes d15) rfl rfl ?_
          refine XS.iloadN X0.here hexec rfl (hb hbytes d16) rfl ?_
          refine X0.aget hexec hA0 rfl (yv_get hA tA (i := i) (by omega)) rfl rfl (hb hbytes d17) ?_
          refine XS.aloadN X0.here hexec rfl (hb hbytes d18) rfl rfl ?_
          refine XS.iloadN X0.here hexec rfl (hb hbytes d19) rfl ?_
          refine X0.aget hexec hB0 rfl (yv_get hB tB (i := i) (by omega)) rfl rfl (hb hbytes d20) ?_
          exact Steps.refl _)
        by_cases hv : yv A i = yv B i
        · have c5 : Steps p.tables e below (s₁.setTop (entryFrame m #[.ref a, .ref b] 3)) (s₁.setTop (mkF m 9 #[.val (.ref a), .val (.ref b), .val (.int (Int32.ofNat i + 1))] [])) := c4.trans (by
            refine XS.icmpYes X0.here hexec rfl (pc0 := 21) rfl (hb hbytes d21) rfl (ii_eq_t hv) (by decide) rfl ?_
            refine iincV X0.here hexec rfl 1 (hb hbytes d26) (by decide) rfl rfl ?_
            refine XS.goto X0.here hexec rfl (pc0 := 29) rfl (hb hbytes d29) (by decide) rfl ?_
            exact Steps.refl _)
          rw [succ32] at c5
          exact ih (i + 1) (by omega) (fun j hj => by
            by_cases e : j = i
            · rw [e]; exact hv
            · exact he j (by omega)) c5
        · exact ⟨25, _, 0, Or.inl rfl, Or.inr ⟨rfl, fun q => hv (q.2 i (by omega))⟩, c4.trans (by
            refine XS.icmpNo X0.here hexec rfl (hb hbytes d21) rfl (ii_eq_f hv) ?_
            refine iconstV X0.here hexec rfl 0 (hb hbytes d24) (by decide) ?_
            exact Steps.refl _)⟩
    obtain ⟨pc, Ls, v, hpc, hv, cz⟩ := loop A.slots.size 0 (by omega) (fun j hj => absurd hj (Nat.not_lt_zero j)) c3
    have nv : narrow .boolean (.int v) = .int v := by rcases hv with ⟨rfl, -⟩ | ⟨rfl, -⟩ <;> rfl
    rcases hpc with rfl | rfl
    · exact ⟨s₁, some (.int v), _, _, _, X0, rfl, rfl, rfl, (fun h => by cases h), ⟨v, rfl, hh0, hv⟩, fun fs hl => cz.trans (X0.ireturnOut hexec hret nv (Or.inr (Or.inl rfl)) (hb hbytes d25) hl)⟩
    · exact ⟨s₁, some (.int v), _, _, _, X0, rfl, rfl, rfl, (fun h => by cases h), ⟨v, rfl, hh0, hv⟩, fun fs hl => cz.trans (X0.ireturnOut hexec hret nv (Or.inr (Or.inl rfl)) (hb hbytes d33) hl)⟩
  · have c3 : Steps p.tables e below (s₁.setTop (entryFrame m #[.ref a, .ref b] 3)) (s₁.setTop (mkF m 35 #[.val (.ref a), .val (.ref b), .unset] [.int 0])) := c2.trans (by
      refine XS.icmpYes X0.here hexec rfl (pc0 := 4) rfl (hb hbytes d4) rfl (ii_ne_t (ne32 a31 b31 hs)) (by decide) rfl ?_
      refine iconstV X0.here hexec rfl 0 (hb hbytes d34) (by decide) ?_
      exact Steps.refl _)
    exact ⟨s₁, some (.int 0), _, _, _, X0, rfl, rfl, rfl, (fun h => by cases h), ⟨0, rfl, hh0, Or.inr ⟨rfl, fun q => hs q.1⟩⟩, fun fs hl => c3.trans (X0.ireturnOut hexec hret rfl (Or.inr (Or.inl rfl)) (hb hbytes d35) hl)⟩
end LEq
theorem Cod.ty {cd : Int32} {n : Nat} {f : Nat → Int32} {V : Cell} (h : Cod cd n f V) : Typed .byte V := fun i v hv => by
  have hi : i < V.slots.size := (Array.getElem?_eq_some_iff.mp hv).1
  rcases h with ⟨-, k1, k2⟩ | ⟨-, k1, k2, -⟩
  · rw [(k2 i (by omega)).1] at hv; cases hv; exact fits_lo8 _
  · rcases Nat.mod_two_eq_zero_or_one i with e | e
    · obtain ⟨j, rfl⟩ : ∃ j, i = 2 * j := ⟨i / 2, by omega⟩
      rw [(k2 j (by omega)).1] at hv; cases hv; exact fits_lo8 _
    · obtain ⟨j, rfl⟩ : ∃ j, i = 2 * j + 1 := ⟨i / 2, by omega⟩
      rw [(k2 j (by omega)).2] at hv; cases hv; exact fits_lo8 _
/-- the same text -/
def SameT (n : Nat) (f : Nat → Int32) (k : Nat) (g : Nat → Int32) : Prop := n = k ∧ ∀ j, j < n → f j = g j
theorem lo8_inj {x y : Int32} (h0 : ¬ x < 0) (h1 : ¬ 255 < x) (k0 : ¬ y < 0) (k1 : ¬ 255 < y) (h : lo8 x = lo8 y) : x = y := by
  rw [← lo8_mask h0 h1, ← lo8_mask k0 k1, h]
/-- arrays coded by one coder are equal just where the texts are -/
theorem Cod.eqv {cd : Int32} {n k : Nat} {f g : Nat → Int32} {V V' : Cell} (h : Cod cd n f V) (h' : Cod cd k g V') (hf : ∀ j, j < n → ¬ f j < 0 ∧ ¬ 65535 < f j) (hg : ∀ j, j < k → ¬ g j < 0 ∧ ¬ 65535 < g j) : EqC V V' ↔ SameT n f k g := by
  have yvv : ∀ {W : Cell} {i : Nat} {x : Int32}, W.slots[i]? = some (.int x) → yv W i = x := fun q => by unfold yv; rw [q]
  rcases h with ⟨rfl, k1, k2⟩ | ⟨rfl, k1, k2, -⟩
  · rcases h' with ⟨-, m1, m2⟩ | ⟨e, -⟩
    · constructor
      · rintro ⟨e1, e2⟩
        refine ⟨by omega, fun j hj => ?_⟩
        have q := e2 j (by omega)
        rw [yvv (k2 j hj).1, yvv (m2 j (by omega)).1] at q
        exact lo8_inj (hf j hj).1 (k2 j hj).2 (hg j (by omega)).1 (m2 j (by omega)).2 q
      · rintro ⟨rfl, e2⟩
        refine ⟨by omega, fun j hj => ?_⟩
        rw [yvv (k2 j (by omega)).1, yvv (m2 j (by omega)).1, e2 j (by omega)]
    · exact absurd e (by decide)
  · rcases h' with ⟨e, -⟩ | ⟨-, m1, m2, -⟩
    · exact absurd e (by decide)
    · constructor
      · rintro ⟨e1, e2⟩
        refine ⟨by omega, fun j hj => ?_⟩
        have q1 := e2 (2 * j) (by omega)
        have q2 := e2 (2 * j + 1) (by omega)
        rw [yvv (k2 j hj).1, yvv (m2 j (by omega)).1] at q1
        rw [yvv (k2 j hj).2, yvv (m2 j (by omega)).2] at q2
        rw [← pair_says (hf j hj).1 (hf j hj).2, ← pair_says (hg j (by omega)).1 (hg j (by omega)).2, q1, q2]
      · rintro ⟨rfl, e2⟩
        refine ⟨by omega, fun i hi => ?_⟩
        rcases Nat.mod_two_eq_zero_or_one i with e | e
        · obtain ⟨j, rfl⟩ : ∃ j, i = 2 * j := ⟨i / 2, by omega⟩
          rw [yvv (k2 j (by omega)).1, yvv (m2 j (by omega)).1, e2 j (by omega)]
        · obtain ⟨j, rfl⟩ : ∃ j, i = 2 * j + 1 := ⟨i / 2, by omega⟩
          rw [yvv (k2 j (by omega)).2, yvv (m2 j (by omega)).2, e2 j (by omega)]
/-- two codings differ: so do the texts -/
theorem Cod.dif {cd cd' : Int32} {n k : Nat} {f g : Nat → Int32} {V V' : Cell} (h : Cod cd n f V) (h' : Cod cd' k g V') (hne : ¬ cd = cd') : ¬ SameT n f k g := by
  rintro ⟨rfl, e⟩
  rcases h with ⟨rfl, -, k2⟩ | ⟨rfl, -, -, j, hj, hw⟩
  · rcases h' with ⟨rfl, -⟩ | ⟨-, -, -, j, hj, hw⟩
    · exact hne rfl
    · exact (k2 j hj).2 (by rw [e j hj]; exact hw)
  · rcases h' with ⟨-, -, m2⟩ | ⟨rfl, -⟩
    · exact (m2 j hj).2 (by rw [← e j hj]; exact hw)
    · exact hne rfl
/-- an object of exactly C is an instance of C -/
theorem cinst {p : Program} {l : Launch} {e : Env} {R : Room} {s : State} {m : MethodId} {args : Array Value} {below : List Frame} {meth : Method} {c : Code} {T : State} {locs : List Loc} {cells slots : Nat} (X : Stand p l e R s m args below meth c T locs cells slots) (hexec : p.tables.exec = Jvm.exec) {own C : String} {index : Nat} (hown : s.vm.findClass own = some m.cls) (hlink : (Cond.classLink own index C).before args s = true) {a : Addr} (hE : Exact C a T)
    {g : JFrame} (hg : g.method = m) {rest : List Value} (hstack : g.stack = .ref a :: rest) (hdg : decode c.code g.pc = .ok (.instanceof index, 3)) :
    ∃ T', Stand p l e R s m args below meth c T' locs cells slots ∧ T'.heap = T.heap ∧ ∀ target, Steps p.tables e below (T'.setTop { g with pc := g.pc + 3, stack := .int 1 :: rest }) target → Steps p.tables e below (T.setTop g) target := by
  obtain ⟨cB, h1, D, h2, h3, h4⟩ := hE
  have h1' : s.vm.findClass C = some cB := by rw [← X.warmed.alike.findClass]; exact h1
  obtain ⟨vm', X', st⟩ := X.instanceofYes hexec hown hlink h2 h4 h1' (by rw [h3]; exact Jvm.Free.SB.assignable_self _ _) hg hstack hdg
  exact ⟨_, X', rfl, st⟩
theorem cself {p : Program} {l : Launch} {e : Env} {R : Room} {s : State} {m : MethodId} {args : Array Value} {below : List Frame} {meth : Method} {c : Code} {T : State} {locs : List Loc} {cells slots : Nat} (X : Stand p l e R s m args below meth c T locs cells slots) (hexec : p.tables.exec = Jvm.exec) {own C : String} {index : Nat} (hown : s.vm.findClass own = some m.cls) (hlink : (Cond.classLink own index C).before args s = true) {a : Addr} (hE : Exact C a T)
    {g : JFrame} (hg : g.method = m) {rest : List Value} (hstack : g.stack = .ref a :: rest) (hdg : decode c.code g.pc = .ok (.checkcast index, 3)) :
    ∃ T', Stand p l e R s m args below meth c T' locs cells slots ∧ T'.heap = T.heap ∧ ∀ target, Steps p.tables e below (T'.setTop { g with pc := g.pc + 3, stack := .ref a :: rest }) target → Steps p.tables e below (T.setTop g) target := by
  obtain ⟨cB, h1, D, h2, h3, h4⟩ := hE
  have h1' : s.vm.findClass C = some cB := by rw [← X.warmed.alike.findClass]; exact h1
  obtain ⟨vm', X', st⟩ := X.checkcastYes hexec hown hlink h2 h4 h1' (by rw [h3]; exact Jvm.Free.SB.assignable_self _ _) hg hstack hdg
  exact ⟨_, X', rfl, fun t h => st t (by rw [← hstack] at h; exact h)⟩
namespace SEq
def yN : MethodName := ⟨"java/lang/String", "equals", "(Ljava/lang/Object;)Z"⟩
abbrev yB : ByteArray := jdk_42_method_66_code
theorem d0 : decode yB 0 = .ok (.aload_n 0, 1) := by decide +kernel
theorem d1 : decode yB 1 = .ok (.aload_n 1, 1) := by decide +kernel
theorem d2 : decode yB 2 = .ok (.if_acmp (.ne) 5, 3) := by decide +kernel
theorem d5 : decode yB 5 = .ok (.iconst 1, 1) := by decide +kernel
theorem d6 : decode yB 6 = .ok (.ireturn, 1) := by decide +kernel
theorem d7 : decode yB 7 = .ok (.aload_n 1, 1) := by decide +kernel
theorem d8 : decode yB 8 = .ok (.instanceof 10, 3) := by decide +kernel
theorem d11 : decode yB 11 = .ok (.ifCond (.eq) 43, 3) := by decide +kernel
theorem d14 : decode yB 14 = .ok (.aload_n 1, 1) := by decide +kernel
theorem d15 : decode yB 15 = .ok (.checkcast 10, 3) := by decide +kernel
theorem d18 : decode yB 18 = .ok (.astore_n 2, 1) := by decide +kernel
theorem d19 : decode yB 19 = .ok (.getstatic 38, 3) := by decide +kernel
theorem d22 : decode yB 22 = .ok (.ifCond (.eq) 14, 3) := by decide +kernel
theorem d25 : decode yB 25 = .ok (.aload_n 0, 1) := by decide +kernel
theorem d26 : decode yB 26 = .ok (.getfield 15, 3) := by decide +kernel
theorem d29 : decode yB 29 = .ok (.aload_n 2, 1) := by decide +kernel
theorem d30 : decode yB 30 = .ok (.getfield 15, 3) := by decide +kernel
theorem d33 : decode yB 33 = .ok (.if_icmp (.ne) 21, 3) := by decide +kernel
theorem d36 : decode yB 36 = .ok (.aload_n 0, 1) := by decide +kernel
theorem d37 : decode yB 37 = .ok (.getfield 9, 3) := by decide +kernel
theorem d40 : decode yB 40 = .ok (.aload_n 2, 1) := by decide +kernel
theorem d41 : decode yB 41 = .ok (.getfield 9, 3) := by decide +kernel
theorem d44 : decode yB 44 = .ok (.invokestatic 541, 3) := by decide +kernel
theorem d47 : decode yB 47 = .ok (.ifCond (.eq) 7, 3) := by decide +kernel
theorem d50 : decode yB 50 = .ok (.iconst 1, 1) := by decide +kernel
theorem d51 : decode yB 51 = .ok (.goto 4, 3) := by decide +kernel
theorem d54 : decode yB 54 = .ok (.iconst 0, 1) := by decide +kernel
theorem d55 : decode yB 55 = .ok (.ireturn, 1) := by decide +kernel
def site : List Cond := [.classLink "java/lang/String" 10 "java/lang/String", .fieldLink "java/lang/String" 38 "java/lang/String" "COMPACT_STRINGS" "Z", .fieldLink "java/lang/String" 15 "java/lang/String" "coder" "B", .fieldLink "java/lang/String" 9 "java/lang/String" "value" "[B", LEq.tab] ++ staticW "java/lang/String" 541 LEq.yN
def tab : Cond := tabOf yN yB 3 (some .boolean) site
def P (x t : Addr) (V : Cell) (cd : Int32) (n : Nat) (f : Nat → Int32) (y t' : Addr) (V' : Cell) (cd' : Int32) (k : Nat) (g : Nat → Int32) (z : Int32) (args : Array Value) (s : State) : Prop := args = #[.ref x, .ref y] ∧ Txt x t V cd n f s ∧ Txt y t' V' cd' k g s ∧ StaticIs s "java/lang/String" "COMPACT_STRINGS" "Z" (.int z) ∧ ¬ z = 0
/-- equals(Object) of two Strings: whether the texts are the same -/
theorem law (l : Launch) (x t : Addr) (V : Cell) (cd : Int32) (n : Nat) (f : Nat → Int32) (y t' : Addr) (V' : Cell) (cd' : Int32) (k : Nat) (g : Nat → Int32) (z : Int32) : Law l yN 2 1 1 14 yB 3 (some .boolean) site (P x t V cd n f y t' V' cd' k g z) (Says01 (SameT n f k g)) [] 0 0 := by
  refine Law.of_walk (plainFor_of_name (by decide +kernel)) (by decide +kernel) (by decide +kernel) (by decide) (fun _ _ h => by rw [h.1]; rfl) (fun _ U U' hal hh h => ⟨h.1, h.2.1.mv hal hh, h.2.2.1.mv hal hh, h.2.2.2.1.there hal hh, h.2.2.2.2⟩) (fun r U U' V V' h1 hal h2 h => Says01.mv r U U' V V' h1 hal h2 h) ?_
  intro p e s m args below meth c s₁ X0 hexec hbytes hml hret hlk hnm hown hh0 W hP
  obtain ⟨rfl, hx, hy, s1, hz⟩ := hP
  have c1 : Steps p.tables e below (s₁.setTop (entryFrame m #[.ref x, .ref y] 3)) (s₁.setTop (mkF m 2 #[.val (.ref x), .val (.ref y), .unset] [.ref y, .ref x])) := Steps.trans (entry rfl) (by
    show Steps p.tables e below (s₁.setTop (mkF m 0 #[.val (.ref x), .val (.ref y), .unset] [])) _
    refine XS.aloadN X0.here hexec rfl (hb hbytes d0) rfl rfl ?_
    refine XS.aloadN X0.here hexec rfl (hb hbytes d1) rfl rfl ?_
    exact Steps.refl _)
  by_cases hxy : x = y
  · have c2 : Steps p.tables e below (s₁.setTop (entryFrame m #[.ref x, .ref y] 3)) (s₁.setTop (mkF m 6 #[.val (.ref x), .val (.ref y), .unset] [.int 1])) := c1.trans (by
      refine acmpNo X0.here hexec rfl (hb hbytes d2) rfl rfl rfl (by simp [acmp, hxy]) ?_
      refine iconstV X0.here hexec rfl 1 (hb hbytes d5) (by decide) ?_
      exact Steps.refl _)
    subst hxy
    have ec : cd = cd' := by
      obtain ⟨D, fd, a1, a2, a3⟩ := hx.2.2.1
      obtain ⟨D', fd', b1, b2, b3⟩ := hy.2.2.1
      cases a1.symm.trans b1
      obtain ⟨q1, q2, q3, q4⟩ := a2.1
      obtain ⟨r1, r2, r3, r4⟩ := b2.1
      cases q4.symm.trans r4
      cases a3.symm.trans b3; rfl
    have et : t = t' := by
      obtain ⟨D, fd, a1, a2, a3⟩ := hx.2.1
      obtain ⟨D', fd', b1, b2, b3⟩ := hy.2.1
      cases a1.symm.trans b1
      obtain ⟨q1, q2, q3, q4⟩ := a2.1
      obtain ⟨r1, r2, r3, r4⟩ := b2.1
      cases q4.symm.trans r4
      cases a3.symm.trans b3; rfl
    subst ec et
    have ev : V = V' := by cases hx.2.2.2.1.1.symm.trans hy.2.2.2.1.1; rfl
    subst ev
    have hs : SameT n f k g := (Cod.eqv hx.2.2.2.2.1 hy.2.2.2.2.1 hx.2.2.2.2.2 hy.2.2.2.2.2).mp ⟨rfl, fun _ _ => rfl⟩
    exact ⟨s₁, some (.int 1), _, _, _, X0, rfl, rfl, rfl, (fun h => by cases h), ⟨1, rfl, hh0, Or.inl ⟨rfl, hs⟩⟩, fun fs hl => c2.trans (X0.ireturnOut hexec hret rfl (Or.inr (Or.inl rfl)) (hb hbytes d6) hl)⟩
  · have c2 : Steps p.tables e below (s₁.setTop (entryFrame m #[.ref x, .ref y] 3)) (s₁.setTop (mkF m 8 #[.val (.ref x), .val (.ref y), .unset] [.ref y])) := c1.trans (by
      refine acmpYes X0.here hexec rfl (pc0 := 2) rfl (hb hbytes d2) rfl rfl rfl (by simp [acmp, hxy]) (by decide) rfl ?_
      refine XS.aloadN X0.here hexec rfl (hb hbytes d7) rfl rfl ?_
      exact Steps.refl _)
    obtain ⟨T3, X3, q3, st3⟩ := cinst X0 hexec hown (wk W (.classLink "java/lang/String" 10 "java/lang/String")) (hy.mv X0.warmed.alike hh0).1 (g := (mkF m 8 #[.val (.ref x), .val (.ref y), .unset] [.ref y])) rfl (rest := []) rfl (hb hbytes d8)
    have hh3 := q3.trans hh0
    have c4 : Steps p.tables e below (s₁.setTop (entryFrame m #[.ref x, .ref y] 3)) (T3.setTop (mkF m 15 #[.val (.ref x), .val (.ref y), .unset] [.ref y])) := (c2.trans (st3 _ (Steps.refl _))).trans (by
      refine XS.ifNo X3.here hexec rfl (hb hbytes d11) rfl (i0_eq_f (by decide)) ?_
      refine XS.aloadN X3.here hexec rfl (hb hbytes d14) rfl rfl ?_
      exact Steps.refl _)
    obtain ⟨T5, X5, q5, st5⟩ := cself X3 hexec hown (wk W (.classLink "java/lang/String" 10 "java/lang/String")) (hy.mv X3.warmed.alike hh3).1 (g := (mkF m 15 #[.val (.ref x), .val (.ref y), .unset] [.ref y])) rfl (rest := []) rfl (hb hbytes d15)
    have hh5 := q5.trans hh3
    have c6 : Steps p.tables e below (s₁.setTop (entryFrame m #[.ref x, .ref y] 3)) (T5.setTop (mkF m 19 #[.val (.ref x), .val (.ref y), .val (.ref y)] [])) := (c4.trans (st5 _ (Steps.refl _))).trans (by
      refine XS.astoreN X5.here hexec rfl (hb hbytes d18) rfl rfl rfl ?_
      exact Steps.refl _)
    obtain ⟨T7, X7, q7, st7⟩ := X5.sget hexec hown (wk W (.fieldLink "java/lang/String" 38 "java/lang/String" "COMPACT_STRINGS" "Z")) s1 (fun _ _ h => by rw [hh5]; exact h) (g := (mkF m 19 #[.val (.ref x), .val (.ref y), .val (.ref y)] [])) rfl (hb hbytes d19)
    have hh7 := q7.trans hh5
    have c8 : Steps p.tables e below (s₁.setTop (entryFrame m #[.ref x, .ref y] 3)) (T7.setTop (mkF m 26 #[.val (.ref x), .val (.ref y), .val (.ref y)] [.ref x])) := (c6.trans (st7 _ (Steps.refl _))).trans (by
      refine XS.ifNo X7.here hexec rfl (hb hbytes d22) rfl (i0_eq_f hz) ?_
      refine XS.aloadN X7.here hexec rfl (hb hbytes d25) rfl rfl ?_
      exact Steps.refl _)
    obtain ⟨T9, X9, q9, st9⟩ := X7.hget hexec hown (wk W (.fieldLink "java/lang/String" 15 "java/lang/String" "coder" "B")) (hx.mv X7.warmed.alike hh7).2.2.1 (g := (mkF m 26 #[.val (.ref x), .val (.ref y), .val (.ref y)] [.ref x])) rfl (rest := []) rfl (hb hbytes d26)
    have hh9 := q9.trans hh7
    have c10 : Steps p.tables e below (s₁.setTop (entryFrame m #[.ref x, .ref y] 3)) (T9.setTop (mkF m 30 #[.val (.ref x), .val (.ref y), .val (.ref y)] [.ref y, .int cd])) := (c8.trans (st9 _ (Steps.refl _))).trans (by
      refine XS.aloadN X9.here hexec rfl (hb hbytes d29) rfl rfl ?_
      exact Steps.refl _)
    obtain ⟨T11, X11, q11, st11⟩ := X9.hget hexec hown (wk W (.fieldLink "java/lang/String" 15 "java/lang/String" "coder" "B")) (hy.mv X9.warmed.alike hh9).2.2.1 (g := (mkF m 30 #[.val (.ref x), .val (.ref y), .val (.ref y)] [.ref y, .int cd])) rfl (rest := [.int cd]) rfl (hb hbytes d30)
    have hh11 := q11.trans hh9
    have c12 : Steps p.tables e below (s₁.setTop (entryFrame m #[.ref x, .ref y] 3)) (T11.setTop (mkF m 33 #[.val (.ref x), .val (.ref y), .val (.ref y)] [.int cd', .int cd])) := c10.trans (st11 _ (Steps.refl _))
    by_cases hcd : cd = cd'
    · subst hcd
      have c13 : Steps p.tables e below (s₁.setTop (entryFrame m #[.ref x, .ref y] 3)) (T11.setTop (mkF m 37 #[.val (.ref x), .val (.ref y), .val (.ref y)] [.ref x])) := c12.trans (by
        refine XS.icmpNo X11.here hexec rfl (hb hbytes d33) rfl (ii_ne_f rfl) ?_
        refine XS.aloadN X11.here hexec rfl (hb hbytes d36) rfl rfl ?_
        exact Steps.refl _)
      obtain ⟨T14, X14, q14, st14⟩ := X11.hget hexec hown (wk W (.fieldLink "java/lang/String" 9 "java/lang/String" "value" "[B")) (hx.mv X11.warmed.alike hh11).2.1 (g := (mkF m 37 #[.val (.ref x), .val (.ref y), .val (.ref y)] [.ref x])) rfl (rest := []) rfl (hb hbytes d37)
      have hh14 := q14.trans hh11
      have c15 : Steps p.tables e below (s₁.setTop (entryFrame m #[.ref x, .ref y] 3)) (T14.setTop (mkF m 41 #[.val (.ref x), .val (.ref y), .val (.ref y)] [.ref y, .ref t])) := (c13.trans (st14 _ (Steps.refl _))).trans (by
        refine XS.aloadN X14.here hexec rfl (hb hbytes d40) rfl rfl ?_
        exact Steps.refl _)
      obtain ⟨T16, X16, q16, st16⟩ := X14.hget hexec hown (wk W (.fieldLink "java/lang/String" 9 "java/lang/String" "value" "[B")) (hy.mv X14.warmed.alike hh14).2.1 (g := (mkF m 41 #[.val (.ref x), .val (.ref y), .val (.ref y)] [.ref y, .ref t])) rfl (rest := [.ref t]) rfl (hb hbytes d41)
      have hh16 := q16.trans hh14
      have c17 : Steps p.tables e below (s₁.setTop (entryFrame m #[.ref x, .ref y] 3)) (T16.setTop (mkF m 44 #[.val (.ref x), .val (.ref y), .val (.ref y)] [.ref t', .ref t])) := c15.trans (st16 _ (Steps.refl _))
      obtain ⟨v18, T18, X18, E18, g18⟩ := X16.callS hexec (LEq.law l t V t' V') hown (wks W (staticW "java/lang/String" 541 LEq.yN)) (wk W LEq.tab) (W := 0) (Nat.le_of_ble_eq_true rfl) (Nat.le_of_ble_eq_true rfl) (Nat.le_refl _) (Nat.le_refl _) (g := (mkF m 44 #[.val (.ref x), .val (.ref y), .val (.ref y)] [.ref t', .ref t])) rfl (by rw [hml]; rfl) c17 (argsL := [.ref t, .ref t']) (rest := []) rfl rfl (by show 2 * 0 + 0 ≤ _; decide) (hb hbytes d44) (⟨rfl, hx.2.2.2.1.mv X16.warmed.alike hh16, hx.2.2.2.2.1.ty, hy.2.2.2.1.mv X16.warmed.alike hh16, hy.2.2.2.2.1.ty⟩)
      obtain ⟨v, rfl, q18, hv⟩ := E18
      have iff := Cod.eqv hx.2.2.2.2.1 hy.2.2.2.2.1 hx.2.2.2.2.2 hy.2.2.2.2.2
      rcases hv with ⟨rfl, he⟩ | ⟨rfl, he⟩
      · have c19 : Steps p.tables e below (s₁.setTop (entryFrame m #[.ref x, .ref y] 3)) (T18.setTop (mkF m 55 #[.val (.ref x), .val (.ref y), .val (.ref y)] [.int 1])) := Steps.trans g18 (by
          refine XS.ifNo X18.here hexec rfl (hb hbytes d47) rfl (i0_eq_f (by decide)) ?_
          refine iconstV X18.here hexec rfl 1 (hb hbytes d50) (by decide) ?_
          refine XS.goto X18.here hexec rfl (pc0 := 51) rfl (hb hbytes d51) (by decide) rfl ?_
          exact Steps.refl _)
        exact ⟨T18, some (.int 1), _, _, _, X18, rfl, rfl, rfl, (fun h => by cases h), ⟨1, rfl, q18.trans hh16, Or.inl ⟨rfl, iff.mp he⟩⟩, fun fs hl => c19.trans (X18.ireturnOut hexec hret rfl (Or.inr (Or.inl rfl)) (hb hbytes d55) hl)⟩
      · have c19 : Steps p.tables e below (s₁.setTop (entryFrame m #[.ref x, .ref y] 3)) (T18.setTop (mkF m 55 #[.val (.ref x), .val (.ref y), .val (.ref y)] [.int 0])) := Steps.trans g18 (by
          refine XS.ifYes X18.here hexec rfl (pc0 := 47) rfl (hb hbytes d47) rfl (i0_eq_t rfl) (by decide) rfl ?_
          refine iconstV X18.here hexec rfl 0 (hb hbytes d54) (by decide) ?_
          exact Steps.refl _)
        exact ⟨T18, some (.int 0), _, _, _, X18, rfl, rfl, rfl, (fun h => by cases h), ⟨0, rfl, q18.trans hh16, Or.inr ⟨rfl, fun q => he (iff.mpr q)⟩⟩, fun fs hl => c19.trans (X18.ireturnOut hexec hret rfl (Or.inr (Or.inl rfl)) (hb hbytes d55) hl)⟩
    · have c13 : Steps p.tables e below (s₁.setTop (entryFrame m #[.ref x, .ref y] 3)) (T11.setTop (mkF m 55 #[.val (.ref x), .val (.ref y), .val (.ref y)] [.int 0])) := c12.trans (by
        refine XS.icmpYes X11.here hexec rfl (pc0 := 33) rfl (hb hbytes d33) rfl (ii_ne_t hcd) (by decide) rfl ?_
        refine iconstV X11.here hexec rfl 0 (hb hbytes d54) (by decide) ?_
        exact Steps.refl _)
      exact ⟨T11, some (.int 0), _, _, _, X11, rfl, rfl, rfl, (fun h => by cases h), ⟨0, rfl, hh11, Or.inr ⟨rfl, Cod.dif hx.2.2.2.2.1 hy.2.2.2.2.1 hcd⟩⟩, fun fs hl => c13.trans (X11.ireturnOut hexec hret rfl (Or.inr (Or.inl rfl)) (hb hbytes d55) hl)⟩
theorem pays {l : Launch} {R : Room} {p : Program} {e : Env} {below : List Frame} {s : State} {sargs : Array Value} {len W : Nat} (x t : Addr) (V : Cell) (cd : Int32) (n : Nat) (f : Nat → Int32) (y t' : Addr) (V' : Cell) (cd' : Int32) (k : Nat) (g : Nat → Int32) (z : Int32) (htab : tab.before sargs s = true) (hfr : 2 ≤ R.frames) (hlo : W + 28 ≤ R.locals) :
    Back l R p e below s sargs yN len W (fun A₁ a₁ => A₁.cells + 0 ≤ R.cells ∧ A₁.slots + 0 ≤ R.slots ∧ P x t V cd n f y t' V' cd' k g z a₁ A₁.U) (fun A₁ _ v₁ B₁ => Says01 (SameT n f k g) v₁ A₁.U B₁.U ∧ B₁.locs = A₁.locs ++ [] ∧ B₁.cells = A₁.cells + 0 ∧ B₁.slots = A₁.slots + 0) :=
  (law l x t V cd n f y t' V' cd' k g z).pays htab hfr (by omega)
end SEq
end StrChars
namespace StrChars.Road
open Jvm Sem ClassFile Op Lib Jvm.Stand Jvm.Free Jvm.Free.XT
open Jvm.Lib.Cold (StaticIs)
/-- the words of String.equals(Object) -/
abbrev wordsEq : List Jvm.Cond := [.code SEq.yN SEq.yB 3 (some .boolean), .initialized ST, .classLink ST 10 ST, .fieldLink ST 38 ST "COMPACT_STRINGS" "Z", .fieldLink ST 15 ST "coder" "B", .fieldLink ST 9 ST "value" "[B", .methodLink ST 541 LEq.yN, .static LEq.yN, .code LEq.yN LEq.yB 3 (some .boolean), .initialized "java/lang/StringLatin1"]
theorem tabEq_of {a : Array Value} {s : State} (h : ∀ w ∈ wordsEq, w.before a s = true) : SEq.tab.before a s = true := by
  have hl : LEq.tab.before a s = true := unparts (wk h (.code LEq.yN LEq.yB 3 (some .boolean))) (wks h (.initialized LEq.yN.cls :: LEq.site))
  have q := consq hl h
  exact unparts (wk q (.code SEq.yN SEq.yB 3 (some .boolean))) (wks q (.initialized SEq.yN.cls :: SEq.site))
theorem movedEq {Z s : State} {a0 args : Array Value} (hZ : Z.Warmed39 s.vm) (hw : ∀ d ∈ wordsEq, d.before a0 Z = true) : ∀ d ∈ wordsEq, d.before args s = true := fun d hd => by
  have t : ∀ d ∈ wordsEq, (d.onTables && d.keepsFace) = true := by decide +kernel
  exact RoadKit.mv hZ (hw d hd) (t d hd)
/-- the road's facts of a String, as the laws ask it -/
theorem txt_of {Z U : State} {a0 : Array Value} {kI : Nat} (wi : (Jvm.Cond.instantiable ST kI).before a0 Z = true) (al : Z.vm.Alike U.vm) {x t : Addr} {kb : ClassId} {cs : List Int32} {cd N2 : Int32} {vs : List Value} (E : RoadKit.Exa Z U.heap x ST) (V : RoadKit.Fld Z U.heap x ST "value" "[B" (.ref t)) (C : RoadKit.Fld Z U.heap x ST "coder" "B" (.int cd)) (K : RoadKit.Arv Z U.heap t kb .byte N2 vs (.int 0)) (hc : CodA cs cd N2 vs) (hb : ∀ c ∈ cs, ¬ c < 0 ∧ ¬ (65535 : Int32) < c) (l2 : cs.length ≤ 4000) :
    ∃ A, Txt x t A cd cs.length (fun j => cs.getD j 0) U := by
  obtain ⟨A, K1, K2, K3, K4, K5, K6⟩ := K
  have hcod := hc.cod (by omega) K3 K5
  obtain ⟨D, fV, fC, hB, F1, F2, g1, g2, -, -⟩ := strObj wi al E V C
  exact ⟨A, ⟨_, hB.2.2.1, D, hB.1, rfl, by cases q : D.vm <;> first | rfl | exact absurd q (hB.2.1.2 _)⟩, Has.of hB F1 g1, Has.of hB F2 g2, ⟨K1.1, State.isArrayOf_alike al K1.2.1, K1.2.2, by rcases hcod with ⟨-, q, -⟩ | ⟨-, q, -⟩ <;> omega⟩, hcod, fun j hj => by
    have e : cs.getD j 0 = cs[j] := by simp [List.getD_eq_getElem?_getD, hj]
    show ¬ cs.getD j 0 < 0 ∧ ¬ 65535 < cs.getD j 0
    rw [e]; exact hb _ (List.getElem_mem _)⟩
theorem same_list (cs ds : List Int32) : SameT cs.length (fun j => cs.getD j 0) ds.length (fun j => ds.getD j 0) ↔ cs = ds := by
  constructor
  · rintro ⟨e, q⟩
    refine List.ext_getElem e fun j h1 h2 => ?_
    have := q j h1
    simpa [List.getD_eq_getElem?_getD, h1, h2] using this
  · rintro rfl
    exact ⟨rfl, fun _ _ => rfl⟩
/-- **equals(Object) OF TWO SUCH STRINGS**: 1 just where the chars are the same -/
theorem eqW {p : Program} {l : Launch} {e : Env} {R : Room} {s : State} {args : Array Value} {below : List Frame} {len W : Nat} {Z : State} {a0 : Array Value} {h : Heap} (hZ : Z.Warmed39 s.vm) (hw : ∀ d ∈ wordsEq, d.before a0 Z = true) {kI : Nat} (wi : (Jvm.Cond.instantiable ST kI).before a0 Z = true)
    {x t : Addr} {kb : ClassId} {cs : List Int32} {cd N2 : Int32} {vs : List Value} (E : RoadKit.Exa Z h x ST) (V : RoadKit.Fld Z h x ST "value" "[B" (.ref t)) (C : RoadKit.Fld Z h x ST "coder" "B" (.int cd)) (K : RoadKit.Arv Z h t kb .byte N2 vs (.int 0)) (hc : CodA cs cd N2 vs) (hb : ∀ c ∈ cs, ¬ c < 0 ∧ ¬ (65535 : Int32) < c) (l2 : cs.length ≤ 4000)
    {y t' : Addr} {kb' : ClassId} {ds : List Int32} {cd' N2' : Int32} {vs' : List Value} (E' : RoadKit.Exa Z h y ST) (V' : RoadKit.Fld Z h y ST "value" "[B" (.ref t')) (C' : RoadKit.Fld Z h y ST "coder" "B" (.int cd')) (K' : RoadKit.Arv Z h t' kb' .byte N2' vs' (.int 0)) (hc' : CodA ds cd' N2' vs') (hb' : ∀ c ∈ ds, ¬ c < 0 ∧ ¬ (65535 : Int32) < c) (l2' : ds.length ≤ 4000)
    {z : Int32} (S : RoadKit.Sta Z h ST "COMPACT_STRINGS" "Z" (.int z)) (hz : ¬ z = 0) (hfr : 2 ≤ R.frames) (hlo : W + 28 ≤ R.locals) :
    Back l R p e below s args (⟨"java/lang/String", "equals", "(Ljava/lang/Object;)Z"⟩ : MethodName) len W (fun P a => a = #[.ref x, .ref y] ∧ P.U.heap = h ∧ P.cells + 0 ≤ R.cells ∧ P.slots + 0 ≤ R.slots)
      (fun P _ v B => ∃ L, (((v = some (.int 1) ∧ cs = ds) ∨ (v = some (.int 0) ∧ ¬ cs = ds)) ∧ L = [] ∧ B.U.heap = h) ∧ B.locs = P.locs ++ L ∧ B.cells = P.cells + 0 ∧ B.slots = P.slots + 0) := by
  intro m meth c P g ig mk a X hg hsize hdg hW hn hp'
  obtain ⟨rfl, rfl, r1, r2⟩ := hp'
  have al : Z.vm.Alike P.U.vm := hZ.alike.trans X.warmed.alike
  obtain ⟨A, hx⟩ := txt_of wi al E V C K hc hb l2
  obtain ⟨A', hy⟩ := txt_of wi al E' V' C' K' hc' hb' l2'
  obtain ⟨v, B, X', ⟨⟨w, hv, hh, hq⟩, hl, hk, hs⟩, st⟩ := SEq.pays x t A cd cs.length (fun j => cs.getD j 0) y t' A' cd' ds.length (fun j => ds.getD j 0) z (tabEq_of (movedEq hZ hw)) hfr hlo m meth c P g ig mk _ X hg hsize hdg hW hn ⟨r1, r2, rfl, hx, hy, sta_is al S, hz⟩
  refine ⟨v, B, X', ⟨[], ⟨?_, rfl, hh⟩, hl, hk, hs⟩, st⟩
  rcases hq with ⟨rfl, q⟩ | ⟨rfl, q⟩
  · exact Or.inl ⟨hv, (same_list cs ds).mp q⟩
  · exact Or.inr ⟨hv, fun e => q ((same_list cs ds).mpr e)⟩
end StrChars.Road
namespace StrChars.Road
open Jvm Sem ClassFile Op Lib Jvm.Stand Jvm.Free Jvm.Free.XT
open Jvm.Lib.Cold (StaticIs)
/-- what backV says of its String, as the contracts of this text ask it: cs's low bytes, coder 0 -/
theorem codOf {cs : List Int32} {n : Nat} (hn : cs.length = n) (hb : ∀ c ∈ cs, ¬ 255 < c) : CodA cs 0 (Int32.ofNat n) ((cs.map lo8).map Value.int) := Or.inl ⟨rfl, by rw [hn], by simp [List.map_map, Function.comp_def], hb⟩
end StrChars.Road
end Jvm.Pilot.@@N@@

namespace Jvm.Pilot.@@N@@
open Jvm Jvm.ClassFile Sem Op Lib Jvm.Free Jvm.Stand Jvm.LawKit Jvm.RoadKit Bundle Jvm.Pilot.@@N@@.Jvm.D
abbrev lv (x : Int64) : Slot := .val (.long x)
theorem wd {a0 : Array Value} {Z : State} (hw : ∀ d ∈ tables_1, d.before a0 Z = true) (i : Nat) {d : Jvm.Cond} (h : tables_1[i]? = some d) : d.before a0 Z = true := hw _ (List.mem_of_getElem? h)
/-- the run goes on from U and ends as Q says -/
def Goes (p : Program) (e : Env) (below : List Frame) (U : State) (Q : Outcome → State → Prop) : Prop := ∃ s₂ o, Steps p.tables e below U s₂ ∧ s₂.status = .running ∧ Ended s₂ below o ∧ Q o s₂
theorem Goes.by {p : Program} {e : Env} {below : List Frame} {U U' : State} {Q : Outcome → State → Prop} (h : ∀ t, Steps p.tables e below U' t → Steps p.tables e below U t) (g : Goes p e below U' Q) : Goes p e below U Q := by
  obtain ⟨s, o, h1, h2⟩ := g; exact ⟨s, o, h _ h1, h2⟩
theorem Goes.tr {p : Program} {e : Env} {below : List Frame} {U U' : State} {Q : Outcome → State → Prop} (h : Steps p.tables e below U U') (g : Goes p e below U' Q) : Goes p e below U Q := Goes.by (fun _ k => h.trans k) g
theorem Goes.join {α : Type} {p : Program} {e : Env} {below : List Frame} {U : State} {Q : Outcome → State → Prop} (P : α → Prop) (S : α → State) (k : (∀ z, P z → Goes p e below (S z) Q) → Goes p e below U Q) (j : ∀ z, P z → Goes p e below (S z) Q) : Goes p e below U Q := k j
theorem Goes.out {p : Program} {e : Env} {below : List Frame} {U : State} {Q : Outcome → State → Prop} (g : Goes p e below U Q) : ∃ s₂ o, Steps p.tables e below U s₂ ∧ s₂.status = .running ∧ Ended s₂ below o ∧ Q o s₂ := g
/-- a callee that writes nothing and returns r -/
def QP (r : Option Value) (h0 : Heap) (n0 : Nat) (v : Option Value) (h : Heap) (L : List Loc) : Prop := v = r ∧ Fr n0 L ∧ h = h0
/-- the law -/
def QL (n0 : Nat) (v : Option Value) (h : Heap) (L : List Loc) : Prop := v = some (.int 1) ∧ Fr n0 L
theorem own_lt {a b : Int64} (h : a < b) : lcmpW a b < 0 := by rw [lcW]; exact (lc_lt a b).mpr h
theorem own_nlt {a b : Int64} (h : ¬ a < b) : ¬ lcmpW a b < 0 := by rw [lcW]; exact fun q => h ((lc_lt a b).mp q)
theorem own_gt {a b : Int64} (h : b < a) : 0 < lcmpW a b := by rw [lcW]; exact (lc_gt a b).mpr h
theorem own_ngt {a b : Int64} (h : ¬ b < a) : ¬ 0 < lcmpW a b := by rw [lcW]; exact fun q => h ((lc_gt a b).mp q)
theorem own_eq {a b : Int64} (h : a = b) : lcmpW a b = 0 := by rw [lcW]; exact (lc_eq a b).mpr h
theorem own_neq {a b : Int64} (h : ¬ a = b) : ¬ lcmpW a b = 0 := by rw [lcW]; exact fun q => h ((lc_eq a b).mp q)
theorem own_staKeep {Z : State} {h h' : Heap} {C n d : String} {v : Value} {ws : List Addr} (F : Sta Z h C n d v) (K : Keep h h' ws) (q : ∀ x ∈ ws, ∃ c : Cell, h[x]? = some c ∧ c.vm.isStatics = false) : Sta Z h' C n d v := by
  obtain ⟨cf, i, k, f, st, cell, h1, h2, h3, h4, h5, h6, h7⟩ := F
  refine ⟨cf, i, k, f, st, cell, h1, h2, h3, h4, K.2.1 st cell h5 (fun hm => ?_), h6, h7⟩
  obtain ⟨c, e1, e2⟩ := q st hm
  cases e1.symm.trans h5; rw [e2] at h6; cases h6
theorem own_nsE {Z : State} {h : Heap} {a : Addr} {C : String} (F : Exa Z h a C) : ∃ c : Cell, h[a]? = some c ∧ c.vm.isStatics = false := by
  obtain ⟨c, k, h1, h2, h3, h4, h5⟩ := F; exact ⟨c, h1, h4⟩
theorem own_nsV {Z : State} {h : Heap} {a : Addr} {k : ClassId} {ty : FieldType} {n : Int32} {vs : List Value} {d : Value} (F : Arv Z h a k ty n vs d) : ∃ c : Cell, h[a]? = some c ∧ c.vm.isStatics = false := by
  obtain ⟨c, A, r⟩ := F; exact ⟨c, A.1, A.plain⟩
theorem own_fldI {s : State} {args : Array Value} {t : Term} {a : Addr} {C n d : String} {k : Int32} (ev : t.eval args s none [] s = some (.ref a)) (h : (Cond.eq (.field t C n d) (.int k)).value args s none s [] = some true) : Fld s s.heap a C n d (.int k) := by
  obtain ⟨x, y, h1, h2, k1, k2⟩ := cmp_v (Or.inl h)
  obtain rfl : y = .int k := (Option.some.inj h2).symm
  obtain ⟨z, rfl⟩ := k2
  have e1 : (Cond.eq (.field t C n d) (.int k)).value args s none s [] = some (decide (z = k)) := by simp [Cond.value, h1, h2]
  have e2 : z = k := gotT e1 h
  subst e2
  rw [fld_at ev] at h1
  exact Fld.start h1
theorem own_fldR {s : State} {args : Array Value} {t u : Term} {a b : Addr} {C n d : String} (ev : t.eval args s none [] s = some (.ref a)) (eu : u.eval args s none [] s = some (.ref b)) (h : (Cond.eq (.field t C n d) u).value args s none s [] = some true) : Fld s s.heap a C n d (.ref b) := by
  obtain ⟨x, y, h1, h2, k1, k2⟩ := cmp_v (Or.inl h)
  obtain rfl : y = .ref b := Option.some.inj (h2.symm.trans eu)
  have hx : x.isRef = true := k2.2
  have e2 : x = .ref b := gotT (eq_R h1 h2 hx rfl) h
  subst e2
  rw [fld_at ev] at h1
  exact Fld.start h1
def Pins (Z : State) (h : Heap) (w : Nat → Addr) : Prop := Sta Z h "com/example/killdeer/killdeer/GadgetView$Obscured" "NONE" "Lcom/example/killdeer/killdeer/GadgetView$Obscured;" (.ref (w 0)) ∧ Exa Z h (w 0) "com/example/killdeer/killdeer/GadgetView$Obscured" ∧ Sta Z h "com/example/killdeer/killdeer/GadgetView$Obscured" "PARTIAL" "Lcom/example/killdeer/killdeer/GadgetView$Obscured;" (.ref (w 1)) ∧ Exa Z h (w 1) "com/example/killdeer/killdeer/GadgetView$Obscured" ∧ Sta Z h "com/example/killdeer/killdeer/GadgetView$Obscured" "FULL" "Lcom/example/killdeer/killdeer/GadgetView$Obscured;" (.ref (w 2)) ∧ Exa Z h (w 2) "com/example/killdeer/killdeer/GadgetView$Obscured" ∧ Fld Z h (w 2) "java/lang/Enum" "ordinal" "I" (.int 2) ∧ Fld Z h (w 0) "java/lang/Enum" "ordinal" "I" (.int 0) ∧ Fld Z h (w 1) "java/lang/Enum" "ordinal" "I" (.int 1)
theorem own_ne_2_0 {Z : State} {h : Heap} {w : Nat → Addr} (P : Pins Z h w) : w 2 ≠ w 0 := Fld.ne P.2.2.2.2.2.2.1 P.2.2.2.2.2.2.2.1 (fun q => absurd (Value.int.inj q) (by decide))
theorem own_ne_2_1 {Z : State} {h : Heap} {w : Nat → Addr} (P : Pins Z h w) : w 2 ≠ w 1 := Fld.ne P.2.2.2.2.2.2.1 P.2.2.2.2.2.2.2.2 (fun q => absurd (Value.int.inj q) (by decide))
theorem own_ne_0_1 {Z : State} {h : Heap} {w : Nat → Addr} (P : Pins Z h w) : w 0 ≠ w 1 := Fld.ne P.2.2.2.2.2.2.2.1 P.2.2.2.2.2.2.2.2 (fun q => absurd (Value.int.inj q) (by decide))
theorem own_char (x : Int32) : (¬ ((x &&& (255 : Int32)).toUInt32.toUInt16.toUInt32.toInt32) < 0 ∧ ¬ (255 : Int32) < ((x &&& (255 : Int32)).toUInt32.toUInt16.toUInt32.toInt32)) ∧ nar .char ((x &&& (255 : Int32)).toUInt32.toUInt16.toUInt32.toInt32) = ((x &&& (255 : Int32)).toUInt32.toUInt16.toUInt32.toInt32) := by
  have t : ∀ k : Fin 256, (¬ ((Int32.ofNat k.val).toUInt32.toUInt16.toUInt32.toInt32) < 0 ∧ ¬ (255 : Int32) < ((Int32.ofNat k.val).toUInt32.toUInt16.toUInt32.toInt32)) ∧ nar .char ((Int32.ofNat k.val).toUInt32.toUInt16.toUInt32.toInt32) = ((Int32.ofNat k.val).toUInt32.toUInt16.toUInt32.toInt32) := by decide +kernel
  have h : (x &&& 255).toBitVec.toNat < 256 := by
    simp only [Int32.toBitVec_and, BitVec.toNat_and]
    exact Nat.lt_succ_of_le Nat.and_le_right
  have e : (x &&& 255) = Int32.ofNat (x &&& 255).toBitVec.toNat := by
    apply Int32.toBitVec_inj.mp
    show _ = BitVec.ofNat 32 _
    rw [BitVec.ofNat_toNat]; simp
  rw [e]
  exact t ⟨_, h⟩
theorem own_up (cs : List Int32) (h : ∀ c ∈ cs, ¬ c < 0 ∧ ¬ (255 : Int32) < c) : ∀ c ∈ cs, ¬ c < 0 ∧ ¬ (65535 : Int32) < c := fun c hc => ⟨(h c hc).1, fun q => (h c hc).2 (by rw [Int32.lt_iff_toInt_lt] at q ⊢; have e1 : (65535 : Int32).toInt = 65535 := rfl; have e2 : (255 : Int32).toInt = 255 := rfl; omega)⟩
theorem own_i3 {i : Int32} (h : i = 0 ∨ i = 1 ∨ i = 2) : ¬ i < 0 ∧ i < 3 := by rcases h with rfl | rfl | rfl <;> decide
def own_o (w : Nat → Addr) (i : Int32) : Addr := if i = 0 then w 0 else if i = 1 then w 1 else w 2
theorem own_oinj {w : Nat → Addr} (h1 : w 0 ≠ w 1) (h2 : w 0 ≠ w 2) (h3 : w 1 ≠ w 2) {i j : Int32} (hi : i = 0 ∨ i = 1 ∨ i = 2) (hj : j = 0 ∨ j = 1 ∨ j = 2) : own_o w i = own_o w j ↔ i = j := by
  rcases hi with rfl | rfl | rfl <;> rcases hj with rfl | rfl | rfl <;> simp [own_o, h1, h2, h3, Ne.symm h1, Ne.symm h2, Ne.symm h3]
theorem own_nb {z : Int32} (h : z = 0 ∨ z = 1) : nar .boolean z = z := by rcases h with rfl | rfl <;> decide
def own_same (v1 v2 : Int32) (cs1 cs2 : List Int32) (x1 x2 y1 y2 w1 w2 h1 h2 : Int64) (o1 o2 : Addr) : Prop := v1 = v2 ∧ cs1 = cs2 ∧ x1 = x2 ∧ y1 = y2 ∧ w1 = w2 ∧ h1 = h2 ∧ o1 = o2
theorem own_m (x : Int32) : (x &&& (7 : Int32)) = (0 : Int32) ∨ (x &&& (7 : Int32)) = (1 : Int32) ∨ (x &&& (7 : Int32)) = (2 : Int32) ∨ (x &&& (7 : Int32)) = (3 : Int32) ∨ (x &&& (7 : Int32)) = (4 : Int32) ∨ (x &&& (7 : Int32)) = (5 : Int32) ∨ (x &&& (7 : Int32)) = (6 : Int32) ∨ (x &&& (7 : Int32)) = (7 : Int32) := by
  have e1 : ((x &&& (7 : Int32))).toInt = x.toInt % 2 ^ 3 := Jvm.Kit.i32_mask x (7 : Int32) (k := 3) (by decide) (by decide)
  simp only [← Int32.toInt_inj]
  rw [show (0 : Int32).toInt = 0 from by decide, show (1 : Int32).toInt = 1 from by decide, show (2 : Int32).toInt = 2 from by decide, show (3 : Int32).toInt = 3 from by decide, show (4 : Int32).toInt = 4 from by decide, show (5 : Int32).toInt = 5 from by decide, show (6 : Int32).toInt = 6 from by decide, show (7 : Int32).toInt = 7 from by decide]
  omega
theorem own_k (x : Int32) : (x &&& (3 : Int32)) = (0 : Int32) ∨ (x &&& (3 : Int32)) = (1 : Int32) ∨ (x &&& (3 : Int32)) = (2 : Int32) ∨ (x &&& (3 : Int32)) = (3 : Int32) := by
  have e1 : ((x &&& (3 : Int32))).toInt = x.toInt % 2 ^ 2 := Jvm.Kit.i32_mask x (3 : Int32) (k := 2) (by decide) (by decide)
  simp only [← Int32.toInt_inj]
  rw [show (0 : Int32).toInt = 0 from by decide, show (1 : Int32).toInt = 1 from by decide, show (2 : Int32).toInt = 2 from by decide, show (3 : Int32).toInt = 3 from by decide]
  omega
theorem own_63 (x : Int32) : ((x &&& (63 : Int32)) % (3 : Int32)) = 0 ∨ ((x &&& (63 : Int32)) % (3 : Int32)) = 1 ∨ ((x &&& (63 : Int32)) % (3 : Int32)) = 2 := by
  have e1 : (x &&& (63 : Int32)).toInt = x.toInt % 2 ^ 6 := Jvm.Kit.i32_mask x (63 : Int32) (k := 6) (by decide) (by decide)
  have e2 : ((x &&& (63 : Int32)) % (3 : Int32)).toInt = (x &&& (63 : Int32)).toInt % (3 : Int32).toInt := Jvm.Kit.i32_rem_nonneg (by omega)
  rw [show (3 : Int32).toInt = 3 from by decide] at e2
  simp only [← Int32.toInt_inj]
  rw [show (0 : Int32).toInt = 0 from by decide, show (1 : Int32).toInt = 1 from by decide, show (2 : Int32).toInt = 2 from by decide]
  omega
theorem own_255 (x : Int32) : ((x &&& (255 : Int32)) % (3 : Int32)) = 0 ∨ ((x &&& (255 : Int32)) % (3 : Int32)) = 1 ∨ ((x &&& (255 : Int32)) % (3 : Int32)) = 2 := by
  have e1 : (x &&& (255 : Int32)).toInt = x.toInt % 2 ^ 8 := Jvm.Kit.i32_mask x (255 : Int32) (k := 8) (by decide) (by decide)
  have e2 : ((x &&& (255 : Int32)) % (3 : Int32)).toInt = (x &&& (255 : Int32)).toInt % (3 : Int32).toInt := Jvm.Kit.i32_rem_nonneg (by omega)
  rw [show (3 : Int32).toInt = 3 from by decide] at e2
  simp only [← Int32.toInt_inj]
  rw [show (0 : Int32).toInt = 0 from by decide, show (1 : Int32).toInt = 1 from by decide, show (2 : Int32).toInt = 2 from by decide]
  omega
theorem own_noGV {Z : State} {a0 : Array Value} (w1 : (Cond.superclass "java/lang/String" "java/lang/Object").before a0 Z = true) (w2 : (Cond.noSuperclass "java/lang/Object").before a0 Z = true) (w3 : (Cond.instantiable "com/example/killdeer/killdeer/GadgetView" 7).before a0 Z = true) : ∃ c t, Z.vm.findClass "java/lang/String" = some c ∧ Z.vm.findClass "com/example/killdeer/killdeer/GadgetView" = some t ∧ Z.vm.assignable c t = false := by
  obtain ⟨c, h0⟩ := found_sup w1
  obtain ⟨p, k, kp, h1, h2, h3, h4, h5, -, h7⟩ := Cond.superclass_spec h0 w1
  obtain ⟨cO, kO, o1, o2, o3, -, -⟩ := Cond.noSuperclass_spec w2
  cases h1.symm.trans o1
  cases h3.symm.trans o2
  have hin := w3
  obtain ⟨t, kt, t1, t2, t3, -⟩ := Cond.instantiable_spec w3
  have hni : kt.isInterface = false := by
    simp only [Cond.before, Cond.holds, Cond.value, t1, Option.bind_some, t2, Option.map_some] at hin
    simp at hin
    simp_all
  have n1 := ids_ne h0 t1 (by decide)
  have n2 := ids_ne o1 t1 (by decide)
  refine ⟨c, t, h0, t1, ?_⟩
  show Z.vm.assignableAux (255 + 1) c t = false
  simp [Vm.assignableAux, n1, h2, t2, h5, t3, hni, Vm.isSubclass]
  have sub : ∀ fuel, Z.vm.isSubclassAux fuel c t = false := fun fuel => by
    cases fuel with
    | zero => rfl
    | succ f =>
      cases f with
      | zero => simp [Vm.isSubclassAux, n1, h2, h4]
      | succ g => simp [Vm.isSubclassAux, n1, h2, h4, n2, o2, o3]
  exact sub _
theorem pd0 : parseMethodDescriptor "([C)V" = some ⟨[(.array .char)], none⟩ := by decide +kernel
theorem d7_0 : decode prog_16_method_1_code 0 = .ok (.aload_n 0, 1) := by decide +kernel
theorem d7_1 : decode prog_16_method_1_code 1 = .ok (.invokespecial 1, 3) := by decide +kernel
theorem d7_4 : decode prog_16_method_1_code 4 = .ok (.aload_n 0, 1) := by decide +kernel
theorem d7_5 : decode prog_16_method_1_code 5 = .ok (.iload_n 1, 1) := by decide +kernel
theorem d7_6 : decode prog_16_method_1_code 6 = .ok (.putfield 7, 3) := by decide +kernel
theorem d7_9 : decode prog_16_method_1_code 9 = .ok (.aload_n 0, 1) := by decide +kernel
theorem d7_10 : decode prog_16_method_1_code 10 = .ok (.aload_n 2, 1) := by decide +kernel
theorem d7_11 : decode prog_16_method_1_code 11 = .ok (.putfield 13, 3) := by decide +kernel
theorem d7_14 : decode prog_16_method_1_code 14 = .ok (.aload_n 0, 1) := by decide +kernel
theorem d7_15 : decode prog_16_method_1_code 15 = .ok (.lload_n 3, 1) := by decide +kernel
theorem d7_16 : decode prog_16_method_1_code 16 = .ok (.putfield 17, 3) := by decide +kernel
theorem d7_19 : decode prog_16_method_1_code 19 = .ok (.aload_n 0, 1) := by decide +kernel
theorem d7_20 : decode prog_16_method_1_code 20 = .ok (.lload 5, 2) := by decide +kernel
theorem d7_22 : decode prog_16_method_1_code 22 = .ok (.putfield 21, 3) := by decide +kernel
theorem d7_25 : decode prog_16_method_1_code 25 = .ok (.aload_n 0, 1) := by decide +kernel
theorem d7_26 : decode prog_16_method_1_code 26 = .ok (.lload 7, 2) := by decide +kernel
theorem d7_28 : decode prog_16_method_1_code 28 = .ok (.putfield 24, 3) := by decide +kernel
theorem d7_31 : decode prog_16_method_1_code 31 = .ok (.aload_n 0, 1) := by decide +kernel
theorem d7_32 : decode prog_16_method_1_code 32 = .ok (.lload 9, 2) := by decide +kernel
theorem d7_34 : decode prog_16_method_1_code 34 = .ok (.putfield 27, 3) := by decide +kernel
theorem d7_37 : decode prog_16_method_1_code 37 = .ok (.aload_n 0, 1) := by decide +kernel
theorem d7_38 : decode prog_16_method_1_code 38 = .ok (.aload 11, 2) := by decide +kernel
theorem d7_40 : decode prog_16_method_1_code 40 = .ok (.putfield 30, 3) := by decide +kernel
theorem d7_43 : decode prog_16_method_1_code 43 = .ok (.return_, 1) := by decide +kernel
theorem ef7_RIRJJJJR (m : MethodId) (x0 : Addr) (x1 : Int32) (x2 : Addr) (x3 : Int64) (x4 : Int64) (x5 : Int64) (x6 : Int64) (x7 : Addr) : entryFrame m #[(.ref x0), (.int x1), (.ref x2), (.long x3), (.long x4), (.long x5), (.long x6), (.ref x7)] 12 = mkF m 0 #[rv x0, iv x1, rv x2, lv x3, .second, lv x4, .second, lv x5, .second, lv x6, .second, rv x7] [] := by first | (simp [entryFrame, mkF, argsToLocals, Value.category]; done) | rfl
theorem pn0 : plainName "com/example/killdeer/killdeer/GadgetView" = true := by first | (simp [plainName, overriddenIn]; done) | decide +kernel
theorem pd1 : parseMethodDescriptor "(ZLjava/lang/String;JJJJLcom/example/killdeer/killdeer/GadgetView$Obscured;)V" = some ⟨[.boolean, (.object "java/lang/String"), .long, .long, .long, .long, (.object "com/example/killdeer/killdeer/GadgetView$Obscured")], none⟩ := by decide +kernel
theorem d8_0 : decode prog_16_method_4_code 0 = .ok (.aload_n 0, 1) := by decide +kernel
theorem d8_1 : decode prog_16_method_4_code 1 = .ok (.aload_n 1, 1) := by decide +kernel
theorem d8_2 : decode prog_16_method_4_code 2 = .ok (.if_acmp .ne 5, 3) := by decide +kernel
theorem d8_7 : decode prog_16_method_4_code 7 = .ok (.aload_n 1, 1) := by decide +kernel
theorem d8_8 : decode prog_16_method_4_code 8 = .ok (.instanceof 8, 3) := by decide +kernel
theorem d8_11 : decode prog_16_method_4_code 11 = .ok (.ifCond .ne 5, 3) := by decide +kernel
theorem d8_16 : decode prog_16_method_4_code 16 = .ok (.aload_n 1, 1) := by decide +kernel
theorem d8_17 : decode prog_16_method_4_code 17 = .ok (.checkcast 8, 3) := by decide +kernel
theorem d8_20 : decode prog_16_method_4_code 20 = .ok (.astore_n 2, 1) := by decide +kernel
theorem d8_21 : decode prog_16_method_4_code 21 = .ok (.aload_n 0, 1) := by decide +kernel
theorem d8_22 : decode prog_16_method_4_code 22 = .ok (.getfield 7, 3) := by decide +kernel
theorem d8_25 : decode prog_16_method_4_code 25 = .ok (.aload_n 2, 1) := by decide +kernel
theorem d8_26 : decode prog_16_method_4_code 26 = .ok (.getfield 7, 3) := by decide +kernel
theorem d8_29 : decode prog_16_method_4_code 29 = .ok (.if_icmp .ne 80, 3) := by decide +kernel
theorem d8_32 : decode prog_16_method_4_code 32 = .ok (.aload_n 0, 1) := by decide +kernel
theorem d8_33 : decode prog_16_method_4_code 33 = .ok (.getfield 13, 3) := by decide +kernel
theorem d8_36 : decode prog_16_method_4_code 36 = .ok (.aload_n 2, 1) := by decide +kernel
theorem d8_37 : decode prog_16_method_4_code 37 = .ok (.getfield 13, 3) := by decide +kernel
theorem d8_40 : decode prog_16_method_4_code 40 = .ok (.invokevirtual 39, 3) := by decide +kernel
theorem pd2 : parseMethodDescriptor "(Ljava/lang/Object;)Z" = some ⟨[(.object "java/lang/Object")], some .boolean⟩ := by decide +kernel
theorem d8_43 : decode prog_16_method_4_code 43 = .ok (.ifCond .eq 66, 3) := by decide +kernel
theorem d8_46 : decode prog_16_method_4_code 46 = .ok (.aload_n 0, 1) := by decide +kernel
theorem d8_47 : decode prog_16_method_4_code 47 = .ok (.getfield 17, 3) := by decide +kernel
theorem d8_50 : decode prog_16_method_4_code 50 = .ok (.aload_n 2, 1) := by decide +kernel
theorem d8_51 : decode prog_16_method_4_code 51 = .ok (.getfield 17, 3) := by decide +kernel
theorem d8_54 : decode prog_16_method_4_code 54 = .ok (.lcmp, 1) := by decide +kernel
theorem d8_55 : decode prog_16_method_4_code 55 = .ok (.ifCond .ne 54, 3) := by decide +kernel
theorem d8_58 : decode prog_16_method_4_code 58 = .ok (.aload_n 0, 1) := by decide +kernel
theorem d8_59 : decode prog_16_method_4_code 59 = .ok (.getfield 21, 3) := by decide +kernel
theorem d8_62 : decode prog_16_method_4_code 62 = .ok (.aload_n 2, 1) := by decide +kernel
theorem d8_63 : decode prog_16_method_4_code 63 = .ok (.getfield 21, 3) := by decide +kernel
theorem d8_66 : decode prog_16_method_4_code 66 = .ok (.lcmp, 1) := by decide +kernel
theorem d8_67 : decode prog_16_method_4_code 67 = .ok (.ifCond .ne 42, 3) := by decide +kernel
theorem d8_70 : decode prog_16_method_4_code 70 = .ok (.aload_n 0, 1) := by decide +kernel
theorem d8_71 : decode prog_16_method_4_code 71 = .ok (.getfield 24, 3) := by decide +kernel
theorem d8_74 : decode prog_16_method_4_code 74 = .ok (.aload_n 2, 1) := by decide +kernel
theorem d8_75 : decode prog_16_method_4_code 75 = .ok (.getfield 24, 3) := by decide +kernel
theorem d8_78 : decode prog_16_method_4_code 78 = .ok (.lcmp, 1) := by decide +kernel
theorem d8_79 : decode prog_16_method_4_code 79 = .ok (.ifCond .ne 30, 3) := by decide +kernel
theorem d8_82 : decode prog_16_method_4_code 82 = .ok (.aload_n 0, 1) := by decide +kernel
theorem d8_83 : decode prog_16_method_4_code 83 = .ok (.getfield 27, 3) := by decide +kernel
theorem d8_86 : decode prog_16_method_4_code 86 = .ok (.aload_n 2, 1) := by decide +kernel
theorem d8_87 : decode prog_16_method_4_code 87 = .ok (.getfield 27, 3) := by decide +kernel
theorem d8_90 : decode prog_16_method_4_code 90 = .ok (.lcmp, 1) := by decide +kernel
theorem d8_91 : decode prog_16_method_4_code 91 = .ok (.ifCond .ne 18, 3) := by decide +kernel
theorem d8_94 : decode prog_16_method_4_code 94 = .ok (.aload_n 0, 1) := by decide +kernel
theorem d8_95 : decode prog_16_method_4_code 95 = .ok (.getfield 30, 3) := by decide +kernel
theorem d8_98 : decode prog_16_method_4_code 98 = .ok (.aload_n 2, 1) := by decide +kernel
theorem d8_99 : decode prog_16_method_4_code 99 = .ok (.getfield 30, 3) := by decide +kernel
theorem d8_102 : decode prog_16_method_4_code 102 = .ok (.if_acmp .ne 7, 3) := by decide +kernel
theorem d8_105 : decode prog_16_method_4_code 105 = .ok (.iconst 1, 1) := by decide +kernel
theorem d8_106 : decode prog_16_method_4_code 106 = .ok (.goto 4, 3) := by decide +kernel
theorem d8_110 : decode prog_16_method_4_code 110 = .ok (.ireturn, 1) := by decide +kernel
theorem d8_109 : decode prog_16_method_4_code 109 = .ok (.iconst 0, 1) := by decide +kernel
theorem ef8_RR (m : MethodId) (x0 : Addr) (x1 : Addr) : entryFrame m #[(.ref x0), (.ref x1)] 3 = mkF m 0 #[rv x0, rv x1, .unset] [] := by first | (simp [entryFrame, mkF, argsToLocals, Value.category]; done) | rfl
theorem d8_5 : decode prog_16_method_4_code 5 = .ok (.iconst 1, 1) := by decide +kernel
theorem d8_6 : decode prog_16_method_4_code 6 = .ok (.ireturn, 1) := by decide +kernel
theorem d8_14 : decode prog_16_method_4_code 14 = .ok (.iconst 0, 1) := by decide +kernel
theorem d8_15 : decode prog_16_method_4_code 15 = .ok (.ireturn, 1) := by decide +kernel
theorem ef8_RN (m : MethodId) (x0 : Addr) : entryFrame m #[(.ref x0), .null] 3 = mkF m 0 #[rv x0, .val .null, .unset] [] := by first | (simp [entryFrame, mkF, argsToLocals, Value.category]; done) | rfl
theorem ef0_JJJJII (m : MethodId) (x0 : Int64) (x1 : Int64) (x2 : Int64) (x3 : Int64) (x4 : Int32) (x5 : Int32) : entryFrame m #[(.long x0), (.long x1), (.long x2), (.long x3), (.int x4), (.int x5)] maxLocals = mkF m 0 #[lv x0, .second, lv x1, .second, lv x2, .second, lv x3, .second, iv x4, iv x5, .unset, .unset, .unset, .unset, .unset, .unset, .unset, .unset, .unset, .unset, .unset, .unset, .unset, .unset, .unset, .unset, .unset, .unset, .unset, .unset, .unset, .unset, .unset, .unset, .unset, .unset] [] := by first | (simp [entryFrame, mkF, argsToLocals, Value.category, maxLocals]; done) | rfl
theorem pn1 : plainName "com/example/killdeer/killdeer/GadgetViewEqualsPinLaw" = true := by first | (simp [plainName, overriddenIn]; done) | decide +kernel
def Q_r7_0 (Z : State) (ob : Addr) (vv : Int32) (sr : Addr) (xa : Int64) (ya : Int64) (wa : Int64) (ha : Int64) (os : Addr) (h0 : Heap) (n0 : Nat) (v : Option Value) (h : Heap) (L : List Loc) : Prop := v = none ∧ Fr n0 L ∧ Keep h0 h [ob] ∧ Fld Z h ob "com/example/killdeer/killdeer/GadgetView" "visible" "Z" (.int (nar .boolean vv)) ∧ Fld Z h ob "com/example/killdeer/killdeer/GadgetView" "appearance" "Ljava/lang/String;" (.ref sr) ∧ Fld Z h ob "com/example/killdeer/killdeer/GadgetView" "x" "J" (.long xa) ∧ Fld Z h ob "com/example/killdeer/killdeer/GadgetView" "y" "J" (.long ya) ∧ Fld Z h ob "com/example/killdeer/killdeer/GadgetView" "width" "J" (.long wa) ∧ Fld Z h ob "com/example/killdeer/killdeer/GadgetView" "height" "J" (.long ha) ∧ Fld Z h ob "com/example/killdeer/killdeer/GadgetView" "obscured" "Lcom/example/killdeer/killdeer/GadgetView$Obscured;" (.ref os)
set_option maxRecDepth 65536 in
set_option maxHeartbeats 40000000 in
theorem r7_0 (l : Launch) (Z : State) (a0 : Array Value) (hw : ∀ d ∈ tables_1, d.before a0 Z = true) (ws : List Jvm.Cond) (h0 : Heap) (n0 : Nat) (Z0 : n0 ≤ h0.size) (ob : Addr) (vv : Int32) (sr : Addr) (xa : Int64) (ya : Int64) (wa : Int64) (ha : Int64) (os : Addr) (E_ob : Exa Z h0 ob "com/example/killdeer/killdeer/GadgetView") (F_visible : Fld Z h0 ob "com/example/killdeer/killdeer/GadgetView" "visible" "Z" (.int 0)) (F_appearance : Fld Z h0 ob "com/example/killdeer/killdeer/GadgetView" "appearance" "Ljava/lang/String;" .null) (F_x : Fld Z h0 ob "com/example/killdeer/killdeer/GadgetView" "x" "J" (.long 0)) (F_y : Fld Z h0 ob "com/example/killdeer/killdeer/GadgetView" "y" "J" (.long 0)) (F_width : Fld Z h0 ob "com/example/killdeer/killdeer/GadgetView" "width" "J" (.long 0)) (F_height : Fld Z h0 ob "com/example/killdeer/killdeer/GadgetView" "height" "J" (.long 0)) (F_obscured : Fld Z h0 ob "com/example/killdeer/killdeer/GadgetView" "obscured" "Lcom/example/killdeer/killdeer/GadgetView$Obscured;" .null) (g_ob : n0 ≤ ob) :
    MetFree l (⟨"com/example/killdeer/killdeer/GadgetView", "<init>", "(ZLjava/lang/String;JJJJLcom/example/killdeer/killdeer/GadgetView$Obscured;)V"⟩ : MethodName) (head1 (Jvm.Cond.code (⟨"com/example/killdeer/killdeer/GadgetView", "<init>", "(ZLjava/lang/String;JJJJLcom/example/killdeer/killdeer/GadgetView$Obscured;)V"⟩ : MethodName) prog_16_method_1_code 12 none :: ws) ({ frames := 1, cells := 0, slots := 0, locals := 12 } : Room)) (fun a U => a = #[(.ref ob), (.int vv), (.ref sr), (.long xa), (.long ya), (.long wa), (.long ha), (.ref os)] ∧ Z.Warmed39 U.vm ∧ U.heap = h0) (fun _ _ _ _ _ => True) (fun _ U o U' => ∃ v L, o = .returned v ∧ Q_r7_0 Z ob vv sr xa ya wa ha os h0 n0 v U'.heap L ∧ FrameEnd U o U' L ({ frames := 1, cells := 0, slots := 0, locals := 12 } : Room).cells ({ frames := 1, cells := 0, slots := 0, locals := 12 } : Room).slots) := by
  refine MetFree.of_bodySF (plainFor_of_name pn0) hisR ?_
  intro p e s m args below meth c s₁ Bd hml0 hP hK
  obtain ⟨rfl, hZ, hh⟩ := hP
  have hx := Bd.exec
  have hby := Bd.bytes
  have hml : c.maxLocals = 12 := hml0
  have hown : s.vm.findClass "com/example/killdeer/killdeer/GadgetView" = some m.cls := findClass_of_methodNamed Bd.named
  have hnm := (name_of_methodNamed Bd.named Bd.method).1
  have X0 : Stand p l e ({ frames := 1, cells := 0, slots := 0, locals := 12 } : Room) s m #[(.ref ob), (.int vv), (.ref sr), (.long xa), (.long ya), (.long wa), (.long ha), (.ref os)] below meth c s₁ [] 0 0 := Stand.of_body Bd
  have e0 : s₁.heap = h0 := by rw [← hh, Bd.state]; rfl
  have N0 := Fr.nil n0
  refine Goes.out (Goes.by (fun tz kz => castTop (ef7_RIRJJJJR m ob vv sr xa ya wa ha os) kz) ?_)
  show Goes p e below (s₁.setTop (mkF m 0 #[rv ob, iv vv, rv sr, lv xa, .second, lv ya, .second, lv wa, .second, lv ha, .second, rv os] [])) _
  refine Goes.by (fun _ kz => XS.aloadN X0.here hx rfl (hb hby d7_0) rfl rfl kz) ?_
  obtain ⟨T47, X47, e47, st47⟩ := initO X0 hx hZ hown (wd hw 46 rfl) (wd hw 25 rfl) (wd hw 26 rfl) e0 (g := (mkF m 1 #[rv ob, iv vv, rv sr, lv xa, .second, lv ya, .second, lv wa, .second, lv ha, .second, rv os] [(.ref ob)])) rfl (by rw [hml]; rfl) rfl (hb hby d7_1) (by decide) (W := 0) (by show 2 * 0 + _ ≤ _; exact Nat.le_of_eq rfl) (by decide)
  refine Goes.by st47 ?_
  refine Goes.by (fun _ kz => XS.aloadN X47.here hx rfl (hb hby d7_4) rfl rfl (XS.iloadN X47.here hx rfl (hb hby d7_5) rfl kz)) ?_
  obtain ⟨T48, h48, X48, e48, W48, st48⟩ := putFN X47 hx hZ hown (wd hw 47 rfl) Via.refl e47 F_visible E_ob (Or.inr ⟨(wd hw 48 rfl), rfl, hnm⟩) (wd hw 11 rfl) (ty := .boolean) (v' := (.int (nar .boolean vv))) (by decide) rfl (fits_nar_bool _) (g := (mkF m 6 #[rv ob, iv vv, rv sr, lv xa, .second, lv ya, .second, lv wa, .second, lv ha, .second, rv os] [(.int vv), (.ref ob)])) rfl rfl (hb hby d7_6)
  have Fw48 := Fld.same W48 F_visible
  have K48 : Keep h0 h48 [ob] := Keep.wr (Keep.refl h0 [ob]) W48 (Or.inl (List.mem_of_getElem? (i := 0) rfl))
  have Z48 : n0 ≤ h48.size := Nat.le_trans Z0 (Keep.of_wr W48).1
  have N48 := Fr.snoc X48 N0 g_ob
  refine Goes.by st48 ?_
  refine Goes.by (fun _ kz => XS.aloadN X48.here hx rfl (hb hby d7_9) rfl rfl (XS.aloadN X48.here hx rfl (hb hby d7_10) rfl rfl kz)) ?_
  have f49 := (Exa.wr W48 E_ob)
  have f50 := (Fld.other W48 F_appearance (Or.inr (slot_ne (Or.inr (wd hw 50 rfl)) (Or.inr (wd hw 48 rfl)) (by decide) (t := (.object "java/lang/String")) (t' := .boolean) (by decide) (by decide))))
  obtain ⟨T51, h51, X51, e51, W51, st51⟩ := putF X48 hx hZ hown (host := "") (Or.inl (wd hw 49 rfl)) Via.refl e48 f50 f49 (Or.inr ⟨(wd hw 50 rfl), rfl, hnm⟩) (wd hw 11 rfl) (ty := (.object "java/lang/String")) (by decide) rfl rfl (g := (mkF m 11 #[rv ob, iv vv, rv sr, lv xa, .second, lv ya, .second, lv wa, .second, lv ha, .second, rv os] [(.ref sr), (.ref ob)])) rfl rfl (hb hby d7_11)
  have Fw51 := Fld.same W51 f50
  have K51 : Keep h0 h51 [ob] := Keep.wr K48 W51 (Or.inl (List.mem_of_getElem? (i := 0) rfl))
  have Z51 : n0 ≤ h51.size := Nat.le_trans Z48 (Keep.of_wr W51).1
  have N51 := Fr.snoc X51 N48 g_ob
  refine Goes.by st51 ?_
  refine Goes.by (fun _ kz => XS.aloadN X51.here hx rfl (hb hby d7_14) rfl rfl (XS.lloadN X51.here hx rfl (hb hby d7_15) rfl kz)) ?_
  have f52 := (Exa.wr W51 f49)
  have f53 := (Fld.other W51 (Fld.other W48 F_x (Or.inr (slot_ne (Or.inr (wd hw 52 rfl)) (Or.inr (wd hw 48 rfl)) (by decide) (t := .long) (t' := .boolean) (by decide) (by decide)))) (Or.inr (slot_ne (Or.inr (wd hw 52 rfl)) (Or.inr (wd hw 50 rfl)) (by decide) (t := .long) (t' := (.object "java/lang/String")) (by decide) (by decide))))
  obtain ⟨T54, h54, X54, e54, W54, st54⟩ := putF X51 hx hZ hown (host := "") (Or.inl (wd hw 51 rfl)) Via.refl e51 f53 f52 (Or.inr ⟨(wd hw 52 rfl), rfl, hnm⟩) (wd hw 11 rfl) (ty := .long) (by decide) rfl rfl (g := (mkF m 16 #[rv ob, iv vv, rv sr, lv xa, .second, lv ya, .second, lv wa, .second, lv ha, .second, rv os] [(.long xa), (.ref ob)])) rfl rfl (hb hby d7_16)
  have Fw54 := Fld.same W54 f53
  have K54 : Keep h0 h54 [ob] := Keep.wr K51 W54 (Or.inl (List.mem_of_getElem? (i := 0) rfl))
  have Z54 : n0 ≤ h54.size := Nat.le_trans Z51 (Keep.of_wr W54).1
  have N54 := Fr.snoc X54 N51 g_ob
  refine Goes.by st54 ?_
  refine Goes.by (fun _ kz => XS.aloadN X54.here hx rfl (hb hby d7_19) rfl rfl (XS.lload X54.here hx rfl (hb hby d7_20) rfl kz)) ?_
  have f55 := (Exa.wr W54 f52)
  have f56 := (Fld.other W54 (Fld.other W51 (Fld.other W48 F_y (Or.inr (slot_ne (Or.inr (wd hw 54 rfl)) (Or.inr (wd hw 48 rfl)) (by decide) (t := .long) (t' := .boolean) (by decide) (by decide)))) (Or.inr (slot_ne (Or.inr (wd hw 54 rfl)) (Or.inr (wd hw 50 rfl)) (by decide) (t := .long) (t' := (.object "java/lang/String")) (by decide) (by decide)))) (Or.inr (slot_ne (Or.inr (wd hw 54 rfl)) (Or.inr (wd hw 52 rfl)) (by decide) (t := .long) (t' := .long) (by decide) (by decide))))
  obtain ⟨T57, h57, X57, e57, W57, st57⟩ := putF X54 hx hZ hown (host := "") (Or.inl (wd hw 53 rfl)) Via.refl e54 f56 f55 (Or.inr ⟨(wd hw 54 rfl), rfl, hnm⟩) (wd hw 11 rfl) (ty := .long) (by decide) rfl rfl (g := (mkF m 22 #[rv ob, iv vv, rv sr, lv xa, .second, lv ya, .second, lv wa, .second, lv ha, .second, rv os] [(.long ya), (.ref ob)])) rfl rfl (hb hby d7_22)
  have Fw57 := Fld.same W57 f56
  have K57 : Keep h0 h57 [ob] := Keep.wr K54 W57 (Or.inl (List.mem_of_getElem? (i := 0) rfl))
  have Z57 : n0 ≤ h57.size := Nat.le_trans Z54 (Keep.of_wr W57).1
  have N57 := Fr.snoc X57 N54 g_ob
  refine Goes.by st57 ?_
  refine Goes.by (fun _ kz => XS.aloadN X57.here hx rfl (hb hby d7_25) rfl rfl (XS.lload X57.here hx rfl (hb hby d7_26) rfl kz)) ?_
  have f58 := (Exa.wr W57 f55)
  have f59 := (Fld.other W57 (Fld.other W54 (Fld.other W51 (Fld.other W48 F_width (Or.inr (slot_ne (Or.inr (wd hw 56 rfl)) (Or.inr (wd hw 48 rfl)) (by decide) (t := .long) (t' := .boolean) (by decide) (by decide)))) (Or.inr (slot_ne (Or.inr (wd hw 56 rfl)) (Or.inr (wd hw 50 rfl)) (by decide) (t := .long) (t' := (.object "java/lang/String")) (by decide) (by decide)))) (Or.inr (slot_ne (Or.inr (wd hw 56 rfl)) (Or.inr (wd hw 52 rfl)) (by decide) (t := .long) (t' := .long) (by decide) (by decide)))) (Or.inr (slot_ne (Or.inr (wd hw 56 rfl)) (Or.inr (wd hw 54 rfl)) (by decide) (t := .long) (t' := .long) (by decide) (by decide))))
  obtain ⟨T60, h60, X60, e60, W60, st60⟩ := putF X57 hx hZ hown (host := "") (Or.inl (wd hw 55 rfl)) Via.refl e57 f59 f58 (Or.inr ⟨(wd hw 56 rfl), rfl, hnm⟩) (wd hw 11 rfl) (ty := .long) (by decide) rfl rfl (g := (mkF m 28 #[rv ob, iv vv, rv sr, lv xa, .second, lv ya, .second, lv wa, .second, lv ha, .second, rv os] [(.long wa), (.ref ob)])) rfl rfl (hb hby d7_28)
  have Fw60 := Fld.same W60 f59
  have K60 : Keep h0 h60 [ob] := Keep.wr K57 W60 (Or.inl (List.mem_of_getElem? (i := 0) rfl))
  have Z60 : n0 ≤ h60.size := Nat.le_trans Z57 (Keep.of_wr W60).1
  have N60 := Fr.snoc X60 N57 g_ob
  refine Goes.by st60 ?_
  refine Goes.by (fun _ kz => XS.aloadN X60.here hx rfl (hb hby d7_31) rfl rfl (XS.lload X60.here hx rfl (hb hby d7_32) rfl kz)) ?_
  have f61 := (Exa.wr W60 f58)
  have f62 := (Fld.other W60 (Fld.other W57 (Fld.other W54 (Fld.other W51 (Fld.other W48 F_height (Or.inr (slot_ne (Or.inr (wd hw 58 rfl)) (Or.inr (wd hw 48 rfl)) (by decide) (t := .long) (t' := .boolean) (by decide) (by decide)))) (Or.inr (slot_ne (Or.inr (wd hw 58 rfl)) (Or.inr (wd hw 50 rfl)) (by decide) (t := .long) (t' := (.object "java/lang/String")) (by decide) (by decide)))) (Or.inr (slot_ne (Or.inr (wd hw 58 rfl)) (Or.inr (wd hw 52 rfl)) (by decide) (t := .long) (t' := .long) (by decide) (by decide)))) (Or.inr (slot_ne (Or.inr (wd hw 58 rfl)) (Or.inr (wd hw 54 rfl)) (by decide) (t := .long) (t' := .long) (by decide) (by decide)))) (Or.inr (slot_ne (Or.inr (wd hw 58 rfl)) (Or.inr (wd hw 56 rfl)) (by decide) (t := .long) (t' := .long) (by decide) (by decide))))
  obtain ⟨T63, h63, X63, e63, W63, st63⟩ := putF X60 hx hZ hown (host := "") (Or.inl (wd hw 57 rfl)) Via.refl e60 f62 f61 (Or.inr ⟨(wd hw 58 rfl), rfl, hnm⟩) (wd hw 11 rfl) (ty := .long) (by decide) rfl rfl (g := (mkF m 34 #[rv ob, iv vv, rv sr, lv xa, .second, lv ya, .second, lv wa, .second, lv ha, .second, rv os] [(.long ha), (.ref ob)])) rfl rfl (hb hby d7_34)
  have Fw63 := Fld.same W63 f62
  have K63 : Keep h0 h63 [ob] := Keep.wr K60 W63 (Or.inl (List.mem_of_getElem? (i := 0) rfl))
  have Z63 : n0 ≤ h63.size := Nat.le_trans Z60 (Keep.of_wr W63).1
  have N63 := Fr.snoc X63 N60 g_ob
  refine Goes.by st63 ?_
  refine Goes.by (fun _ kz => XS.aloadN X63.here hx rfl (hb hby d7_37) rfl rfl (XS.aload X63.here hx rfl (hb hby d7_38) rfl rfl kz)) ?_
  have f64 := (Exa.wr W63 f61)
  have f65 := (Fld.other W63 (Fld.other W60 (Fld.other W57 (Fld.other W54 (Fld.other W51 (Fld.other W48 F_obscured (Or.inr (slot_ne (Or.inr (wd hw 60 rfl)) (Or.inr (wd hw 48 rfl)) (by decide) (t := (.object "com/example/killdeer/killdeer/GadgetView$Obscured")) (t' := .boolean) (by decide) (by decide)))) (Or.inr (slot_ne (Or.inr (wd hw 60 rfl)) (Or.inr (wd hw 50 rfl)) (by decide) (t := (.object "com/example/killdeer/killdeer/GadgetView$Obscured")) (t' := (.object "java/lang/String")) (by decide) (by decide)))) (Or.inr (slot_ne (Or.inr (wd hw 60 rfl)) (Or.inr (wd hw 52 rfl)) (by decide) (t := (.object "com/example/killdeer/killdeer/GadgetView$Obscured")) (t' := .long) (by decide) (by decide)))) (Or.inr (slot_ne (Or.inr (wd hw 60 rfl)) (Or.inr (wd hw 54 rfl)) (by decide) (t := (.object "com/example/killdeer/killdeer/GadgetView$Obscured")) (t' := .long) (by decide) (by decide)))) (Or.inr (slot_ne (Or.inr (wd hw 60 rfl)) (Or.inr (wd hw 56 rfl)) (by decide) (t := (.object "com/example/killdeer/killdeer/GadgetView$Obscured")) (t' := .long) (by decide) (by decide)))) (Or.inr (slot_ne (Or.inr (wd hw 60 rfl)) (Or.inr (wd hw 58 rfl)) (by decide) (t := (.object "com/example/killdeer/killdeer/GadgetView$Obscured")) (t' := .long) (by decide) (by decide))))
  obtain ⟨T66, h66, X66, e66, W66, st66⟩ := putF X63 hx hZ hown (host := "") (Or.inl (wd hw 59 rfl)) Via.refl e63 f65 f64 (Or.inr ⟨(wd hw 60 rfl), rfl, hnm⟩) (wd hw 11 rfl) (ty := (.object "com/example/killdeer/killdeer/GadgetView$Obscured")) (by decide) rfl rfl (g := (mkF m 40 #[rv ob, iv vv, rv sr, lv xa, .second, lv ya, .second, lv wa, .second, lv ha, .second, rv os] [(.ref os), (.ref ob)])) rfl rfl (hb hby d7_40)
  have Fw66 := Fld.same W66 f65
  have K66 : Keep h0 h66 [ob] := Keep.wr K63 W66 (Or.inl (List.mem_of_getElem? (i := 0) rfl))
  have Z66 : n0 ≤ h66.size := Nat.le_trans Z63 (Keep.of_wr W66).1
  have N66 := Fr.snoc X66 N63 g_ob
  refine Goes.by st66 ?_
  show Goes p e below (T66.setTop (mkF m 43 #[rv ob, iv vv, rv sr, lv xa, .second, lv ya, .second, lv wa, .second, lv ha, .second, rv os] [])) _
  have f67 := (Fld.other W66 (Fld.other W63 (Fld.other W60 (Fld.other W57 (Fld.other W54 (Fld.other W51 Fw48 (Or.inr (slot_ne (Or.inr (wd hw 48 rfl)) (Or.inr (wd hw 50 rfl)) (by decide) (t := .boolean) (t' := (.object "java/lang/String")) (by decide) (by decide)))) (Or.inr (slot_ne (Or.inr (wd hw 48 rfl)) (Or.inr (wd hw 52 rfl)) (by decide) (t := .boolean) (t' := .long) (by decide) (by decide)))) (Or.inr (slot_ne (Or.inr (wd hw 48 rfl)) (Or.inr (wd hw 54 rfl)) (by decide) (t := .boolean) (t' := .long) (by decide) (by decide)))) (Or.inr (slot_ne (Or.inr (wd hw 48 rfl)) (Or.inr (wd hw 56 rfl)) (by decide) (t := .boolean) (t' := .long) (by decide) (by decide)))) (Or.inr (slot_ne (Or.inr (wd hw 48 rfl)) (Or.inr (wd hw 58 rfl)) (by decide) (t := .boolean) (t' := .long) (by decide) (by decide)))) (Or.inr (slot_ne (Or.inr (wd hw 48 rfl)) (Or.inr (wd hw 60 rfl)) (by decide) (t := .boolean) (t' := (.object "com/example/killdeer/killdeer/GadgetView$Obscured")) (by decide) (by decide))))
  have f68 := (Fld.other W66 (Fld.other W63 (Fld.other W60 (Fld.other W57 (Fld.other W54 Fw51 (Or.inr (slot_ne (Or.inr (wd hw 50 rfl)) (Or.inr (wd hw 52 rfl)) (by decide) (t := (.object "java/lang/String")) (t' := .long) (by decide) (by decide)))) (Or.inr (slot_ne (Or.inr (wd hw 50 rfl)) (Or.inr (wd hw 54 rfl)) (by decide) (t := (.object "java/lang/String")) (t' := .long) (by decide) (by decide)))) (Or.inr (slot_ne (Or.inr (wd hw 50 rfl)) (Or.inr (wd hw 56 rfl)) (by decide) (t := (.object "java/lang/String")) (t' := .long) (by decide) (by decide)))) (Or.inr (slot_ne (Or.inr (wd hw 50 rfl)) (Or.inr (wd hw 58 rfl)) (by decide) (t := (.object "java/lang/String")) (t' := .long) (by decide) (by decide)))) (Or.inr (slot_ne (Or.inr (wd hw 50 rfl)) (Or.inr (wd hw 60 rfl)) (by decide) (t := (.object "java/lang/String")) (t' := (.object "com/example/killdeer/killdeer/GadgetView$Obscured")) (by decide) (by decide))))
  have f69 := (Fld.other W66 (Fld.other W63 (Fld.other W60 (Fld.other W57 Fw54 (Or.inr (slot_ne (Or.inr (wd hw 52 rfl)) (Or.inr (wd hw 54 rfl)) (by decide) (t := .long) (t' := .long) (by decide) (by decide)))) (Or.inr (slot_ne (Or.inr (wd hw 52 rfl)) (Or.inr (wd hw 56 rfl)) (by decide) (t := .long) (t' := .long) (by decide) (by decide)))) (Or.inr (slot_ne (Or.inr (wd hw 52 rfl)) (Or.inr (wd hw 58 rfl)) (by decide) (t := .long) (t' := .long) (by decide) (by decide)))) (Or.inr (slot_ne (Or.inr (wd hw 52 rfl)) (Or.inr (wd hw 60 rfl)) (by decide) (t := .long) (t' := (.object "com/example/killdeer/killdeer/GadgetView$Obscured")) (by decide) (by decide))))
  have f70 := (Fld.other W66 (Fld.other W63 (Fld.other W60 Fw57 (Or.inr (slot_ne (Or.inr (wd hw 54 rfl)) (Or.inr (wd hw 56 rfl)) (by decide) (t := .long) (t' := .long) (by decide) (by decide)))) (Or.inr (slot_ne (Or.inr (wd hw 54 rfl)) (Or.inr (wd hw 58 rfl)) (by decide) (t := .long) (t' := .long) (by decide) (by decide)))) (Or.inr (slot_ne (Or.inr (wd hw 54 rfl)) (Or.inr (wd hw 60 rfl)) (by decide) (t := .long) (t' := (.object "com/example/killdeer/killdeer/GadgetView$Obscured")) (by decide) (by decide))))
  have f71 := (Fld.other W66 (Fld.other W63 Fw60 (Or.inr (slot_ne (Or.inr (wd hw 56 rfl)) (Or.inr (wd hw 58 rfl)) (by decide) (t := .long) (t' := .long) (by decide) (by decide)))) (Or.inr (slot_ne (Or.inr (wd hw 56 rfl)) (Or.inr (wd hw 60 rfl)) (by decide) (t := .long) (t' := (.object "com/example/killdeer/killdeer/GadgetView$Obscured")) (by decide) (by decide))))
  have f72 := (Fld.other W66 Fw63 (Or.inr (slot_ne (Or.inr (wd hw 58 rfl)) (Or.inr (wd hw 60 rfl)) (by decide) (t := .long) (t' := (.object "com/example/killdeer/killdeer/GadgetView$Obscured")) (by decide) (by decide))))
  obtain ⟨fs, hr, hrun, hended, hW, hsame⟩ := X66.leave (v := none) (fun _ => rfl)
  exact ⟨_, _, X66.returnOut hx Bd.returns (hb hby d7_43) hr, hrun, hended, _, _, rfl, (by rw [show (T66.setFrames fs).heap = h66 from e66]; exact ⟨rfl, N66, K66, f67, f68, f69, f70, f71, f72, Fw66⟩), ⟨_, rfl⟩, hW, hsame.mono (by decide) (by decide)⟩
def Q_r8_0 (v1 v2 : Int32) (cs1 cs2 : List Int32) (x1 x2 y1 y2 w1 w2 h1 h2 : Int64) (os1 os2 : Addr) (h0 : Heap) (n0 : Nat) (v : Option Value) (h : Heap) (L : List Loc) : Prop := (v = some (.int 1) ∧ Fr n0 L ∧ h = h0 ∧ own_same v1 v2 cs1 cs2 x1 x2 y1 y2 w1 w2 h1 h2 os1 os2) ∨ (v = some (.int 0) ∧ Fr n0 L ∧ h = h0 ∧ ¬ own_same v1 v2 cs1 cs2 x1 x2 y1 y2 w1 w2 h1 h2 os1 os2)
set_option maxRecDepth 65536 in
set_option maxHeartbeats 40000000 in
theorem r8_0 (l : Launch) (Z : State) (a0 : Array Value) (hw : ∀ d ∈ tables_1, d.before a0 Z = true) (ws : List Jvm.Cond) (h0 : Heap) (n0 : Nat) (Z0 : n0 ≤ h0.size) (ob1 : Addr) (ob2 : Addr) (v1 : Int32) (v2 : Int32) (sr1 : Addr) (sr2 : Addr) (t1 : Addr) (t2 : Addr) (kb1 : ClassId) (kb2 : ClassId) (cs1 : List Int32) (cs2 : List Int32) (m1 : Int32) (m2 : Int32) (vb1 : List Value) (vb2 : List Value) (x1 : Int64) (x2 : Int64) (y1 : Int64) (y2 : Int64) (w1 : Int64) (w2 : Int64) (h1 : Int64) (h2 : Int64) (os1 : Addr) (os2 : Addr) (zc : Int32)  (E_ob1 : Exa Z h0 ob1 "com/example/killdeer/killdeer/GadgetView") (F1_visible : Fld Z h0 ob1 "com/example/killdeer/killdeer/GadgetView" "visible" "Z" (.int v1)) (F1_appearance : Fld Z h0 ob1 "com/example/killdeer/killdeer/GadgetView" "appearance" "Ljava/lang/String;" (.ref sr1)) (F1_x : Fld Z h0 ob1 "com/example/killdeer/killdeer/GadgetView" "x" "J" (.long x1)) (F1_y : Fld Z h0 ob1 "com/example/killdeer/killdeer/GadgetView" "y" "J" (.long y1)) (F1_width : Fld Z h0 ob1 "com/example/killdeer/killdeer/GadgetView" "width" "J" (.long w1)) (F1_height : Fld Z h0 ob1 "com/example/killdeer/killdeer/GadgetView" "height" "J" (.long h1)) (F1_obscured : Fld Z h0 ob1 "com/example/killdeer/killdeer/GadgetView" "obscured" "Lcom/example/killdeer/killdeer/GadgetView$Obscured;" (.ref os1)) (E_sr1 : Exa Z h0 sr1 "java/lang/String") (G1_v : Fld Z h0 sr1 "java/lang/String" "value" "[B" (.ref t1)) (G1_c : Fld Z h0 sr1 "java/lang/String" "coder" "B" (.int (0 : Int32))) (A1 : Arv Z h0 t1 kb1 .byte m1 vb1 (.int (0 : Int32))) (hcd1 : StrChars.Road.CodA cs1 0 m1 vb1) (hbd1 : ∀ c ∈ cs1, ¬ c < 0 ∧ ¬ (65535 : Int32) < c) (hl1 : cs1.length ≤ 4000) (E_ob2 : Exa Z h0 ob2 "com/example/killdeer/killdeer/GadgetView") (F2_visible : Fld Z h0 ob2 "com/example/killdeer/killdeer/GadgetView" "visible" "Z" (.int v2)) (F2_appearance : Fld Z h0 ob2 "com/example/killdeer/killdeer/GadgetView" "appearance" "Ljava/lang/String;" (.ref sr2)) (F2_x : Fld Z h0 ob2 "com/example/killdeer/killdeer/GadgetView" "x" "J" (.long x2)) (F2_y : Fld Z h0 ob2 "com/example/killdeer/killdeer/GadgetView" "y" "J" (.long y2)) (F2_width : Fld Z h0 ob2 "com/example/killdeer/killdeer/GadgetView" "width" "J" (.long w2)) (F2_height : Fld Z h0 ob2 "com/example/killdeer/killdeer/GadgetView" "height" "J" (.long h2)) (F2_obscured : Fld Z h0 ob2 "com/example/killdeer/killdeer/GadgetView" "obscured" "Lcom/example/killdeer/killdeer/GadgetView$Obscured;" (.ref os2)) (E_sr2 : Exa Z h0 sr2 "java/lang/String") (G2_v : Fld Z h0 sr2 "java/lang/String" "value" "[B" (.ref t2)) (G2_c : Fld Z h0 sr2 "java/lang/String" "coder" "B" (.int (0 : Int32))) (A2 : Arv Z h0 t2 kb2 .byte m2 vb2 (.int (0 : Int32))) (hcd2 : StrChars.Road.CodA cs2 0 m2 vb2) (hbd2 : ∀ c ∈ cs2, ¬ c < 0 ∧ ¬ (65535 : Int32) < c) (hl2 : cs2.length ≤ 4000) (Sc : Sta Z h0 "java/lang/String" "COMPACT_STRINGS" "Z" (.int zc)) (hzc : ¬ zc = 0) (ne12 : ob1 ≠ ob2) :
    MetFree l (⟨"com/example/killdeer/killdeer/GadgetView", "equals", "(Ljava/lang/Object;)Z"⟩ : MethodName) (head1 (Jvm.Cond.code (⟨"com/example/killdeer/killdeer/GadgetView", "equals", "(Ljava/lang/Object;)Z"⟩ : MethodName) prog_16_method_4_code 3 (some .boolean) :: ws) ({ frames := 2, cells := 0, slots := 0, locals := 28 } : Room)) (fun a U => a = #[(.ref ob1), (.ref ob2)] ∧ Z.Warmed39 U.vm ∧ U.heap = h0) (fun _ _ _ _ _ => True) (fun _ U o U' => ∃ v L, o = .returned v ∧ Q_r8_0 v1 v2 cs1 cs2 x1 x2 y1 y2 w1 w2 h1 h2 os1 os2 h0 n0 v U'.heap L ∧ FrameEnd U o U' L ({ frames := 2, cells := 0, slots := 0, locals := 28 } : Room).cells ({ frames := 2, cells := 0, slots := 0, locals := 28 } : Room).slots) := by
  refine MetFree.of_bodySF (plainFor_of_name pn0) hisR ?_
  intro p e s m args below meth c s₁ Bd hml0 hP hK
  obtain ⟨rfl, hZ, hh⟩ := hP
  have hx := Bd.exec
  have hby := Bd.bytes
  have hml : c.maxLocals = 3 := hml0
  have hown : s.vm.findClass "com/example/killdeer/killdeer/GadgetView" = some m.cls := findClass_of_methodNamed Bd.named
  have hnm := (name_of_methodNamed Bd.named Bd.method).1
  have X0 : Stand p l e ({ frames := 2, cells := 0, slots := 0, locals := 28 } : Room) s m #[(.ref ob1), (.ref ob2)] below meth c s₁ [] 0 0 := Stand.of_body Bd
  have e0 : s₁.heap = h0 := by rw [← hh, Bd.state]; rfl
  have N0 := Fr.nil n0
  have hweq : ∀ d ∈ StrChars.Road.wordsEq, d.before a0 Z = true := fun d hd => hw d ((by decide +kernel : ∀ d ∈ StrChars.Road.wordsEq, d ∈ tables_1) d hd)
  refine Goes.out (Goes.by (fun tz kz => castTop (ef8_RR m ob1 ob2) kz) ?_)
  show Goes p e below (s₁.setTop (mkF m 0 #[rv ob1, rv ob2, .unset] [])) _
  refine Goes.by (fun _ kz => XS.aloadN X0.here hx rfl (hb hby d8_0) rfl rfl (XS.aloadN X0.here hx rfl (hb hby d8_1) rfl rfl (Jvm.RoadKit.acmp (g := (mkF m 2 #[rv ob1, rv ob2, .unset] [(.ref ob2), (.ref ob1)])) X0 hx rfl rfl rfl (pc0 := 2) (pc' := 7) (same := false) rfl (hb hby d8_2) rfl (decide_eq_false fun q => ne12 (Value.ref.inj q)) (by decide) (by decide) kz))) ?_
  show Goes p e below (s₁.setTop (mkF m 7 #[rv ob1, rv ob2, .unset] [])) _
  refine Goes.by (fun _ kz => XS.aloadN X0.here hx rfl (hb hby d8_7) rfl rfl kz) ?_
  obtain ⟨T135, X135, e135, st135⟩ := instY X0 hx hZ hown (wd hw 66 rfl) e0 (Ins.self E_ob2) (g := (mkF m 8 #[rv ob1, rv ob2, .unset] [(.ref ob2)])) rfl rfl (hb hby d8_8)
  refine Goes.by st135 ?_
  refine Goes.by (fun _ kz => XS.ifYes X135.here hx rfl (pc0 := 11) (pc' := 16) rfl (hb hby d8_11) rfl ((if0 _ _).trans (feq (by decide : ¬ ((1 : Int32) = (0 : Int32)))).2) (by decide) (by decide) (XS.aloadN X135.here hx rfl (hb hby d8_16) rfl rfl kz)) ?_
  obtain ⟨T136, X136, e136, st136⟩ := castY X135 hx hZ hown (wd hw 66 rfl) e135 (Ins.self E_ob2) (g := (mkF m 17 #[rv ob1, rv ob2, .unset] [(.ref ob2)])) rfl rfl (hb hby d8_17)
  refine Goes.by st136 ?_
  refine Goes.by (fun _ kz => XS.astoreN X136.here hx rfl (hb hby d8_20) rfl rfl rfl (XS.aloadN X136.here hx rfl (hb hby d8_21) rfl rfl kz)) ?_
  obtain ⟨T137, X137, e137, st137⟩ := getF X136 hx hZ hown (host := "") (Or.inl (wd hw 47 rfl)) Via.refl e136 F1_visible (g := (mkF m 22 #[rv ob1, rv ob2, rv ob2] [(.ref ob1)])) rfl rfl (hb hby d8_22)
  refine Goes.by st137 ?_
  refine Goes.by (fun _ kz => XS.aloadN X137.here hx rfl (hb hby d8_25) rfl rfl kz) ?_
  obtain ⟨T138, X138, e138, st138⟩ := getF X137 hx hZ hown (host := "") (Or.inl (wd hw 47 rfl)) Via.refl e137 F2_visible (g := (mkF m 26 #[rv ob1, rv ob2, rv ob2] [(.ref ob2), (.int v1)])) rfl rfl (hb hby d8_26)
  refine Goes.by st138 ?_
  show Goes p e below (T138.setTop (mkF m 29 #[rv ob1, rv ob2, rv ob2] [(.int v2), (.int v1)])) _
  by_cases hc139 : v1 = v2
  · refine Goes.by (fun _ kz => XS.icmpNo X138.here hx rfl (hb hby d8_29) rfl (teq hc139).2 (XS.aloadN X138.here hx rfl (hb hby d8_32) rfl rfl kz)) ?_
    obtain ⟨T140, X140, e140, st140⟩ := getF X138 hx hZ hown (host := "") (Or.inl (wd hw 49 rfl)) Via.refl e138 F1_appearance (g := (mkF m 33 #[rv ob1, rv ob2, rv ob2] [(.ref ob1)])) rfl rfl (hb hby d8_33)
    refine Goes.by st140 ?_
    refine Goes.by (fun _ kz => XS.aloadN X140.here hx rfl (hb hby d8_36) rfl rfl kz) ?_
    obtain ⟨T141, X141, e141, st141⟩ := getF X140 hx hZ hown (host := "") (Or.inl (wd hw 49 rfl)) Via.refl e140 F2_appearance (g := (mkF m 37 #[rv ob1, rv ob2, rv ob2] [(.ref ob2), (.ref sr1)])) rfl rfl (hb hby d8_37)
    refine Goes.by st141 ?_
    obtain ⟨cq142, kq142, q142a, q142b, q142c⟩ := isOf hZ e141 E_sr1
    obtain ⟨_, _, ⟨T142, L142, k142, n142⟩, -, X142, ⟨Lc142, hQ142, l142, y142, z142⟩, st142⟩ := X141.virtualBack hx (y := (⟨"java/lang/String", "equals", "(Ljava/lang/Object;)Z"⟩ : MethodName)) (z := (⟨"java/lang/String", "equals", "(Ljava/lang/Object;)Z"⟩ : MethodName)) hown (mvT hZ (wd hw 68 rfl)) (mvT hZ (wd hw 69 rfl)) (notFace_of_selects (args := #[]) (mvT hZ (wd hw 71 rfl))) (mvT hZ (wd hw 71 rfl)) (mvT hZ (wd hw 70 rfl)) (by decide) (StrChars.Road.eqW (W := 0) hZ hweq (kI := 4) (wd hw 14 rfl) E_sr1 G1_v G1_c A1 hcd1 hbd1 hl1 E_sr2 G2_v G2_c A2 hcd2 hbd2 hl2 Sc hzc (by decide) (by decide)) q142a q142c (g := (mkF m 40 #[rv ob1, rv ob2, rv ob2] [(.ref sr2), (.ref sr1)])) rfl (by rw [hml]; rfl) (Steps.refl _) (argsL := [(.ref sr2)]) (rest := []) (lenOf pd2 rfl) rfl (by show 2 * 0 + _ ≤ _; exact Nat.le_of_eq rfl) (hb hby d8_40) (fun _ _ => ⟨rfl, e141, (by decide : 0 + 0 ≤ _), (by decide : 0 + 0 ≤ _)⟩)
    dsimp only [Pt.U, Pt.locs, Pt.cells, Pt.slots] at X142 l142 y142 z142 st142 hQ142
    subst l142 y142 z142
    obtain ⟨hQ142, rfl, e142⟩ := hQ142
    rcases hQ142 with hQ142 | hQ142
    · obtain ⟨rfl, hcs142⟩ := hQ142
      have Nq142 : Fr n0 ([] : List Loc) := Fr.nil n0
      have N142 := Fr.app N0 Nq142
      refine Goes.tr st142 ?_
      refine Goes.by (fun _ kz => XS.ifNo X142.here hx rfl (hb hby d8_43) rfl ((if0 _ _).trans (feq (by decide : ¬ ((1 : Int32) = (0 : Int32)))).1) (XS.aloadN X142.here hx rfl (hb hby d8_46) rfl rfl kz)) ?_
      obtain ⟨T143, X143, e143, st143⟩ := getF X142 hx hZ hown (host := "") (Or.inl (wd hw 51 rfl)) Via.refl e142 F1_x (g := (mkF m 47 #[rv ob1, rv ob2, rv ob2] [(.ref ob1)])) rfl rfl (hb hby d8_47)
      refine Goes.by st143 ?_
      refine Goes.by (fun _ kz => XS.aloadN X143.here hx rfl (hb hby d8_50) rfl rfl kz) ?_
      obtain ⟨T144, X144, e144, st144⟩ := getF X143 hx hZ hown (host := "") (Or.inl (wd hw 51 rfl)) Via.refl e143 F2_x (g := (mkF m 51 #[rv ob1, rv ob2, rv ob2] [(.ref ob2), (.long x1)])) rfl rfl (hb hby d8_51)
      refine Goes.by st144 ?_
      refine Goes.by (fun _ kz => XS.lcmp X144.here hx rfl (hb hby d8_54) rfl kz) ?_
      show Goes p e below (T144.setTop (mkF m 55 #[rv ob1, rv ob2, rv ob2] [(.int (lcmpW x1 x2))])) _
      by_cases hc145 : x1 = x2
      · refine Goes.by (fun _ kz => XS.ifNo X144.here hx rfl (hb hby d8_55) rfl ((if0 _ _).trans (teq (own_eq hc145)).2) (XS.aloadN X144.here hx rfl (hb hby d8_58) rfl rfl kz)) ?_
        obtain ⟨T146, X146, e146, st146⟩ := getF X144 hx hZ hown (host := "") (Or.inl (wd hw 53 rfl)) Via.refl e144 F1_y (g := (mkF m 59 #[rv ob1, rv ob2, rv ob2] [(.ref ob1)])) rfl rfl (hb hby d8_59)
        refine Goes.by st146 ?_
        refine Goes.by (fun _ kz => XS.aloadN X146.here hx rfl (hb hby d8_62) rfl rfl kz) ?_
        obtain ⟨T147, X147, e147, st147⟩ := getF X146 hx hZ hown (host := "") (Or.inl (wd hw 53 rfl)) Via.refl e146 F2_y (g := (mkF m 63 #[rv ob1, rv ob2, rv ob2] [(.ref ob2), (.long y1)])) rfl rfl (hb hby d8_63)
        refine Goes.by st147 ?_
        refine Goes.by (fun _ kz => XS.lcmp X147.here hx rfl (hb hby d8_66) rfl kz) ?_
        show Goes p e below (T147.setTop (mkF m 67 #[rv ob1, rv ob2, rv ob2] [(.int (lcmpW y1 y2))])) _
        by_cases hc148 : y1 = y2
        · refine Goes.by (fun _ kz => XS.ifNo X147.here hx rfl (hb hby d8_67) rfl ((if0 _ _).trans (teq (own_eq hc148)).2) (XS.aloadN X147.here hx rfl (hb hby d8_70) rfl rfl kz)) ?_
          obtain ⟨T149, X149, e149, st149⟩ := getF X147 hx hZ hown (host := "") (Or.inl (wd hw 55 rfl)) Via.refl e147 F1_width (g := (mkF m 71 #[rv ob1, rv ob2, rv ob2] [(.ref ob1)])) rfl rfl (hb hby d8_71)
          refine Goes.by st149 ?_
          refine Goes.by (fun _ kz => XS.aloadN X149.here hx rfl (hb hby d8_74) rfl rfl kz) ?_
          obtain ⟨T150, X150, e150, st150⟩ := getF X149 hx hZ hown (host := "") (Or.inl (wd hw 55 rfl)) Via.refl e149 F2_width (g := (mkF m 75 #[rv ob1, rv ob2, rv ob2] [(.ref ob2), (.long w1)])) rfl rfl (hb hby d8_75)
          refine Goes.by st150 ?_
          refine Goes.by (fun _ kz => XS.lcmp X150.here hx rfl (hb hby d8_78) rfl kz) ?_
          show Goes p e below (T150.setTop (mkF m 79 #[rv ob1, rv ob2, rv ob2] [(.int (lcmpW w1 w2))])) _
          by_cases hc151 : w1 = w2
          · refine Goes.by (fun _ kz => XS.ifNo X150.here hx rfl (hb hby d8_79) rfl ((if0 _ _).trans (teq (own_eq hc151)).2) (XS.aloadN X150.here hx rfl (hb hby d8_82) rfl rfl kz)) ?_
            obtain ⟨T152, X152, e152, st152⟩ := getF X150 hx hZ hown (host := "") (Or.inl (wd hw 57 rfl)) Via.refl e150 F1_height (g := (mkF m 83 #[rv ob1, rv ob2, rv ob2] [(.ref ob1)])) rfl rfl (hb hby d8_83)
            refine Goes.by st152 ?_
            refine Goes.by (fun _ kz => XS.aloadN X152.here hx rfl (hb hby d8_86) rfl rfl kz) ?_
            obtain ⟨T153, X153, e153, st153⟩ := getF X152 hx hZ hown (host := "") (Or.inl (wd hw 57 rfl)) Via.refl e152 F2_height (g := (mkF m 87 #[rv ob1, rv ob2, rv ob2] [(.ref ob2), (.long h1)])) rfl rfl (hb hby d8_87)
            refine Goes.by st153 ?_
            refine Goes.by (fun _ kz => XS.lcmp X153.here hx rfl (hb hby d8_90) rfl kz) ?_
            show Goes p e below (T153.setTop (mkF m 91 #[rv ob1, rv ob2, rv ob2] [(.int (lcmpW h1 h2))])) _
            by_cases hc154 : h1 = h2
            · refine Goes.by (fun _ kz => XS.ifNo X153.here hx rfl (hb hby d8_91) rfl ((if0 _ _).trans (teq (own_eq hc154)).2) (XS.aloadN X153.here hx rfl (hb hby d8_94) rfl rfl kz)) ?_
              obtain ⟨T155, X155, e155, st155⟩ := getF X153 hx hZ hown (host := "") (Or.inl (wd hw 59 rfl)) Via.refl e153 F1_obscured (g := (mkF m 95 #[rv ob1, rv ob2, rv ob2] [(.ref ob1)])) rfl rfl (hb hby d8_95)
              refine Goes.by st155 ?_
              refine Goes.by (fun _ kz => XS.aloadN X155.here hx rfl (hb hby d8_98) rfl rfl kz) ?_
              obtain ⟨T156, X156, e156, st156⟩ := getF X155 hx hZ hown (host := "") (Or.inl (wd hw 59 rfl)) Via.refl e155 F2_obscured (g := (mkF m 99 #[rv ob1, rv ob2, rv ob2] [(.ref ob2), (.ref os1)])) rfl rfl (hb hby d8_99)
              refine Goes.by st156 ?_
              show Goes p e below (T156.setTop (mkF m 102 #[rv ob1, rv ob2, rv ob2] [(.ref os2), (.ref os1)])) _
              by_cases hc157 : os1 = os2
              · refine Goes.by (fun _ kz => Jvm.RoadKit.acmp (g := (mkF m 102 #[rv ob1, rv ob2, rv ob2] [(.ref os2), (.ref os1)])) X156 hx rfl rfl rfl (pc0 := 102) (pc' := 105) (same := true) rfl (hb hby d8_102) rfl (decide_eq_true (congrArg Value.ref hc157)) (by decide) (by decide) (XS.iconst X156.here hx rfl (hb hby d8_105) (XS.goto X156.here hx rfl (pc0 := 106) (pc' := 110) rfl (hb hby d8_106) (by decide) (by decide) kz))) ?_
                show Goes p e below (T156.setTop (mkF m 110 #[rv ob1, rv ob2, rv ob2] [(.int 1)])) _
                obtain ⟨fs, hr, hrun, hended, hW, hsame⟩ := X156.leave (v := some (.int 1)) (fun h => by rw [Bd.returns] at h; cases h)
                exact ⟨_, _, retN X156 hx (t := .boolean) Bd.returns (by simp) (hb hby d8_110) hr, hrun, hended, _, _, rfl, (Or.inl ⟨rfl, N142, e156, (by simp [own_same, hc139, hc145, hc148, hc151, hc154, hc157, hcs142])⟩), ⟨_, rfl⟩, hW, hsame.mono (by decide) (by decide)⟩
              · refine Goes.by (fun _ kz => Jvm.RoadKit.acmp (g := (mkF m 102 #[rv ob1, rv ob2, rv ob2] [(.ref os2), (.ref os1)])) X156 hx rfl rfl rfl (pc0 := 102) (pc' := 109) (same := false) rfl (hb hby d8_102) rfl (decide_eq_false fun q => hc157 (Value.ref.inj q)) (by decide) (by decide) (XS.iconst X156.here hx rfl (hb hby d8_109) kz)) ?_
                show Goes p e below (T156.setTop (mkF m 110 #[rv ob1, rv ob2, rv ob2] [(.int 0)])) _
                obtain ⟨fs, hr, hrun, hended, hW, hsame⟩ := X156.leave (v := some (.int 0)) (fun h => by rw [Bd.returns] at h; cases h)
                exact ⟨_, _, retN X156 hx (t := .boolean) Bd.returns (by simp) (hb hby d8_110) hr, hrun, hended, _, _, rfl, (Or.inr ⟨rfl, N142, e156, (by simp [own_same, hc139, hc145, hc148, hc151, hc154, hcs142, hc157])⟩), ⟨_, rfl⟩, hW, hsame.mono (by decide) (by decide)⟩
            · refine Goes.by (fun _ kz => XS.ifYes X153.here hx rfl (pc0 := 91) (pc' := 109) rfl (hb hby d8_91) rfl ((if0 _ _).trans (feq (own_neq hc154)).2) (by decide) (by decide) (XS.iconst X153.here hx rfl (hb hby d8_109) kz)) ?_
              show Goes p e below (T153.setTop (mkF m 110 #[rv ob1, rv ob2, rv ob2] [(.int 0)])) _
              obtain ⟨fs, hr, hrun, hended, hW, hsame⟩ := X153.leave (v := some (.int 0)) (fun h => by rw [Bd.returns] at h; cases h)
              exact ⟨_, _, retN X153 hx (t := .boolean) Bd.returns (by simp) (hb hby d8_110) hr, hrun, hended, _, _, rfl, (Or.inr ⟨rfl, N142, e153, (by simp [own_same, hc139, hc145, hc148, hc151, hc154, hcs142])⟩), ⟨_, rfl⟩, hW, hsame.mono (by decide) (by decide)⟩
          · refine Goes.by (fun _ kz => XS.ifYes X150.here hx rfl (pc0 := 79) (pc' := 109) rfl (hb hby d8_79) rfl ((if0 _ _).trans (feq (own_neq hc151)).2) (by decide) (by decide) (XS.iconst X150.here hx rfl (hb hby d8_109) kz)) ?_
            show Goes p e below (T150.setTop (mkF m 110 #[rv ob1, rv ob2, rv ob2] [(.int 0)])) _
            obtain ⟨fs, hr, hrun, hended, hW, hsame⟩ := X150.leave (v := some (.int 0)) (fun h => by rw [Bd.returns] at h; cases h)
            exact ⟨_, _, retN X150 hx (t := .boolean) Bd.returns (by simp) (hb hby d8_110) hr, hrun, hended, _, _, rfl, (Or.inr ⟨rfl, N142, e150, (by simp [own_same, hc139, hc145, hc148, hc151, hcs142])⟩), ⟨_, rfl⟩, hW, hsame.mono (by decide) (by decide)⟩
        · refine Goes.by (fun _ kz => XS.ifYes X147.here hx rfl (pc0 := 67) (pc' := 109) rfl (hb hby d8_67) rfl ((if0 _ _).trans (feq (own_neq hc148)).2) (by decide) (by decide) (XS.iconst X147.here hx rfl (hb hby d8_109) kz)) ?_
          show Goes p e below (T147.setTop (mkF m 110 #[rv ob1, rv ob2, rv ob2] [(.int 0)])) _
          obtain ⟨fs, hr, hrun, hended, hW, hsame⟩ := X147.leave (v := some (.int 0)) (fun h => by rw [Bd.returns] at h; cases h)
          exact ⟨_, _, retN X147 hx (t := .boolean) Bd.returns (by simp) (hb hby d8_110) hr, hrun, hended, _, _, rfl, (Or.inr ⟨rfl, N142, e147, (by simp [own_same, hc139, hc145, hc148, hcs142])⟩), ⟨_, rfl⟩, hW, hsame.mono (by decide) (by decide)⟩
      · refine Goes.by (fun _ kz => XS.ifYes X144.here hx rfl (pc0 := 55) (pc' := 109) rfl (hb hby d8_55) rfl ((if0 _ _).trans (feq (own_neq hc145)).2) (by decide) (by decide) (XS.iconst X144.here hx rfl (hb hby d8_109) kz)) ?_
        show Goes p e below (T144.setTop (mkF m 110 #[rv ob1, rv ob2, rv ob2] [(.int 0)])) _
        obtain ⟨fs, hr, hrun, hended, hW, hsame⟩ := X144.leave (v := some (.int 0)) (fun h => by rw [Bd.returns] at h; cases h)
        exact ⟨_, _, retN X144 hx (t := .boolean) Bd.returns (by simp) (hb hby d8_110) hr, hrun, hended, _, _, rfl, (Or.inr ⟨rfl, N142, e144, (by simp [own_same, hc139, hc145, hcs142])⟩), ⟨_, rfl⟩, hW, hsame.mono (by decide) (by decide)⟩
    · obtain ⟨rfl, hcs142⟩ := hQ142
      have Nq142 : Fr n0 ([] : List Loc) := Fr.nil n0
      have N142 := Fr.app N0 Nq142
      refine Goes.tr st142 ?_
      refine Goes.by (fun _ kz => XS.ifYes X142.here hx rfl (pc0 := 43) (pc' := 109) rfl (hb hby d8_43) rfl ((if0 _ _).trans (teq (by decide : (0 : Int32) = (0 : Int32))).1) (by decide) (by decide) (XS.iconst X142.here hx rfl (hb hby d8_109) kz)) ?_
      show Goes p e below (T142.setTop (mkF m 110 #[rv ob1, rv ob2, rv ob2] [(.int 0)])) _
      obtain ⟨fs, hr, hrun, hended, hW, hsame⟩ := X142.leave (v := some (.int 0)) (fun h => by rw [Bd.returns] at h; cases h)
      exact ⟨_, _, retN X142 hx (t := .boolean) Bd.returns (by simp) (hb hby d8_110) hr, hrun, hended, _, _, rfl, (Or.inr ⟨rfl, N142, e142, (by simp [own_same, hc139, hcs142])⟩), ⟨_, rfl⟩, hW, hsame.mono (by decide) (by decide)⟩
  · refine Goes.by (fun _ kz => XS.icmpYes X138.here hx rfl (pc0 := 29) (pc' := 109) rfl (hb hby d8_29) rfl (feq hc139).2 (by decide) (by decide) (XS.iconst X138.here hx rfl (hb hby d8_109) kz)) ?_
    show Goes p e below (T138.setTop (mkF m 110 #[rv ob1, rv ob2, rv ob2] [(.int 0)])) _
    obtain ⟨fs, hr, hrun, hended, hW, hsame⟩ := X138.leave (v := some (.int 0)) (fun h => by rw [Bd.returns] at h; cases h)
    exact ⟨_, _, retN X138 hx (t := .boolean) Bd.returns (by simp) (hb hby d8_110) hr, hrun, hended, _, _, rfl, (Or.inr ⟨rfl, N0, e138, (by simp [own_same, hc139])⟩), ⟨_, rfl⟩, hW, hsame.mono (by decide) (by decide)⟩
set_option maxRecDepth 65536 in
set_option maxHeartbeats 40000000 in
theorem r8_same (l : Launch) (Z : State) (a0 : Array Value) (hw : ∀ d ∈ tables_1, d.before a0 Z = true) (ws : List Jvm.Cond) (h0 : Heap) (n0 : Nat) (Z0 : n0 ≤ h0.size) (ob1 : Addr)  :
    MetFree l (⟨"com/example/killdeer/killdeer/GadgetView", "equals", "(Ljava/lang/Object;)Z"⟩ : MethodName) (head1 (Jvm.Cond.code (⟨"com/example/killdeer/killdeer/GadgetView", "equals", "(Ljava/lang/Object;)Z"⟩ : MethodName) prog_16_method_4_code 3 (some .boolean) :: ws) ({ frames := 0, cells := 0, slots := 0, locals := 0 } : Room)) (fun a U => a = #[(.ref ob1), (.ref ob1)] ∧ Z.Warmed39 U.vm ∧ U.heap = h0) (fun _ _ _ _ _ => True) (fun _ U o U' => ∃ v L, o = .returned v ∧ QP (some (.int 1)) h0 n0 v U'.heap L ∧ FrameEnd U o U' L ({ frames := 0, cells := 0, slots := 0, locals := 0 } : Room).cells ({ frames := 0, cells := 0, slots := 0, locals := 0 } : Room).slots) := by
  refine MetFree.of_bodySF (plainFor_of_name pn0) hisR ?_
  intro p e s m args below meth c s₁ Bd hml0 hP hK
  obtain ⟨rfl, hZ, hh⟩ := hP
  have hx := Bd.exec
  have hby := Bd.bytes
  have hml : c.maxLocals = 3 := hml0
  have hown : s.vm.findClass "com/example/killdeer/killdeer/GadgetView" = some m.cls := findClass_of_methodNamed Bd.named
  have hnm := (name_of_methodNamed Bd.named Bd.method).1
  have X0 : Stand p l e ({ frames := 0, cells := 0, slots := 0, locals := 0 } : Room) s m #[(.ref ob1), (.ref ob1)] below meth c s₁ [] 0 0 := Stand.of_body Bd
  have e0 : s₁.heap = h0 := by rw [← hh, Bd.state]; rfl
  have N0 := Fr.nil n0
  refine Goes.out (Goes.by (fun tz kz => castTop (ef8_RR m ob1 ob1) kz) ?_)
  show Goes p e below (s₁.setTop (mkF m 0 #[rv ob1, rv ob1, .unset] [])) _
  refine Goes.by (fun _ kz => XS.aloadN X0.here hx rfl (hb hby d8_0) rfl rfl (XS.aloadN X0.here hx rfl (hb hby d8_1) rfl rfl (Jvm.RoadKit.acmp (g := (mkF m 2 #[rv ob1, rv ob1, .unset] [(.ref ob1), (.ref ob1)])) X0 hx rfl rfl rfl (pc0 := 2) (pc' := 5) (same := true) rfl (hb hby d8_2) rfl (decide_eq_true rfl) (by decide) (by decide) kz))) ?_
  show Goes p e below (s₁.setTop (mkF m 5 #[rv ob1, rv ob1, .unset] [])) _
  refine Goes.by (fun _ kz => XS.iconst X0.here hx rfl (hb hby d8_5) kz) ?_
  show Goes p e below (s₁.setTop (mkF m 6 #[rv ob1, rv ob1, .unset] [(.int 1)])) _
  obtain ⟨fs, hr, hrun, hended, hW, hsame⟩ := X0.leave (v := some (.int 1)) (fun h => by rw [Bd.returns] at h; cases h)
  exact ⟨_, _, retN X0 hx (t := .boolean) Bd.returns (by simp) (hb hby d8_6) hr, hrun, hended, _, _, rfl, ⟨rfl, N0, e0⟩, ⟨_, rfl⟩, hW, hsame.mono (by decide) (by decide)⟩
set_option maxRecDepth 65536 in
set_option maxHeartbeats 40000000 in
theorem r8_null (l : Launch) (Z : State) (a0 : Array Value) (hw : ∀ d ∈ tables_1, d.before a0 Z = true) (ws : List Jvm.Cond) (h0 : Heap) (n0 : Nat) (Z0 : n0 ≤ h0.size) (ob1 : Addr)  :
    MetFree l (⟨"com/example/killdeer/killdeer/GadgetView", "equals", "(Ljava/lang/Object;)Z"⟩ : MethodName) (head1 (Jvm.Cond.code (⟨"com/example/killdeer/killdeer/GadgetView", "equals", "(Ljava/lang/Object;)Z"⟩ : MethodName) prog_16_method_4_code 3 (some .boolean) :: ws) ({ frames := 0, cells := 0, slots := 0, locals := 0 } : Room)) (fun a U => a = #[(.ref ob1), .null] ∧ Z.Warmed39 U.vm ∧ U.heap = h0) (fun _ _ _ _ _ => True) (fun _ U o U' => ∃ v L, o = .returned v ∧ QP (some (.int 0)) h0 n0 v U'.heap L ∧ FrameEnd U o U' L ({ frames := 0, cells := 0, slots := 0, locals := 0 } : Room).cells ({ frames := 0, cells := 0, slots := 0, locals := 0 } : Room).slots) := by
  refine MetFree.of_bodySF (plainFor_of_name pn0) hisR ?_
  intro p e s m args below meth c s₁ Bd hml0 hP hK
  obtain ⟨rfl, hZ, hh⟩ := hP
  have hx := Bd.exec
  have hby := Bd.bytes
  have hml : c.maxLocals = 3 := hml0
  have hown : s.vm.findClass "com/example/killdeer/killdeer/GadgetView" = some m.cls := findClass_of_methodNamed Bd.named
  have hnm := (name_of_methodNamed Bd.named Bd.method).1
  have X0 : Stand p l e ({ frames := 0, cells := 0, slots := 0, locals := 0 } : Room) s m #[(.ref ob1), .null] below meth c s₁ [] 0 0 := Stand.of_body Bd
  have e0 : s₁.heap = h0 := by rw [← hh, Bd.state]; rfl
  have N0 := Fr.nil n0
  refine Goes.out (Goes.by (fun tz kz => castTop (ef8_RN m ob1) kz) ?_)
  show Goes p e below (s₁.setTop (mkF m 0 #[rv ob1, .val .null, .unset] [])) _
  refine Goes.by (fun _ kz => XS.aloadN X0.here hx rfl (hb hby d8_0) rfl rfl (XS.aloadN X0.here hx rfl (hb hby d8_1) rfl rfl (Jvm.RoadKit.acmp (g := (mkF m 2 #[rv ob1, .val .null, .unset] [.null, (.ref ob1)])) X0 hx rfl rfl rfl (pc0 := 2) (pc' := 7) (same := false) rfl (hb hby d8_2) rfl (decide_eq_false nofun) (by decide) (by decide) kz))) ?_
  show Goes p e below (s₁.setTop (mkF m 7 #[rv ob1, .val .null, .unset] [])) _
  refine Goes.by (fun _ kz => XS.aloadN X0.here hx rfl (hb hby d8_7) rfl rfl (X0.instanceofNull hx (g := (mkF m 8 #[rv ob1, .val .null, .unset] [.null])) rfl rfl (hb hby d8_8) _ (XS.ifNo X0.here hx rfl (hb hby d8_11) rfl ((if0 _ _).trans (teq (by decide : (0 : Int32) = (0 : Int32))).2) kz))) ?_
  show Goes p e below (s₁.setTop (mkF m 14 #[rv ob1, .val .null, .unset] [])) _
  refine Goes.by (fun _ kz => XS.iconst X0.here hx rfl (hb hby d8_14) kz) ?_
  show Goes p e below (s₁.setTop (mkF m 15 #[rv ob1, .val .null, .unset] [(.int 0)])) _
  obtain ⟨fs, hr, hrun, hended, hW, hsame⟩ := X0.leave (v := some (.int 0)) (fun h => by rw [Bd.returns] at h; cases h)
  exact ⟨_, _, retN X0 hx (t := .boolean) Bd.returns (by simp) (hb hby d8_15) hr, hrun, hended, _, _, rfl, ⟨rfl, N0, e0⟩, ⟨_, rfl⟩, hW, hsame.mono (by decide) (by decide)⟩
set_option maxRecDepth 65536 in
set_option maxHeartbeats 40000000 in
theorem r8_str (l : Launch) (Z : State) (a0 : Array Value) (hw : ∀ d ∈ tables_1, d.before a0 Z = true) (ws : List Jvm.Cond) (h0 : Heap) (n0 : Nat) (Z0 : n0 ≤ h0.size) (ob1 : Addr) (sr1 : Addr) (E_sr : Exa Z h0 sr1 "java/lang/String") (ne1 : ob1 ≠ sr1) :
    MetFree l (⟨"com/example/killdeer/killdeer/GadgetView", "equals", "(Ljava/lang/Object;)Z"⟩ : MethodName) (head1 (Jvm.Cond.code (⟨"com/example/killdeer/killdeer/GadgetView", "equals", "(Ljava/lang/Object;)Z"⟩ : MethodName) prog_16_method_4_code 3 (some .boolean) :: ws) ({ frames := 0, cells := 0, slots := 0, locals := 0 } : Room)) (fun a U => a = #[(.ref ob1), (.ref sr1)] ∧ Z.Warmed39 U.vm ∧ U.heap = h0) (fun _ _ _ _ _ => True) (fun _ U o U' => ∃ v L, o = .returned v ∧ QP (some (.int 0)) h0 n0 v U'.heap L ∧ FrameEnd U o U' L ({ frames := 0, cells := 0, slots := 0, locals := 0 } : Room).cells ({ frames := 0, cells := 0, slots := 0, locals := 0 } : Room).slots) := by
  refine MetFree.of_bodySF (plainFor_of_name pn0) hisR ?_
  intro p e s m args below meth c s₁ Bd hml0 hP hK
  obtain ⟨rfl, hZ, hh⟩ := hP
  have hx := Bd.exec
  have hby := Bd.bytes
  have hml : c.maxLocals = 3 := hml0
  have hown : s.vm.findClass "com/example/killdeer/killdeer/GadgetView" = some m.cls := findClass_of_methodNamed Bd.named
  have hnm := (name_of_methodNamed Bd.named Bd.method).1
  have X0 : Stand p l e ({ frames := 0, cells := 0, slots := 0, locals := 0 } : Room) s m #[(.ref ob1), (.ref sr1)] below meth c s₁ [] 0 0 := Stand.of_body Bd
  have e0 : s₁.heap = h0 := by rw [← hh, Bd.state]; rfl
  have N0 := Fr.nil n0
  refine Goes.out (Goes.by (fun tz kz => castTop (ef8_RR m ob1 sr1) kz) ?_)
  show Goes p e below (s₁.setTop (mkF m 0 #[rv ob1, rv sr1, .unset] [])) _
  refine Goes.by (fun _ kz => XS.aloadN X0.here hx rfl (hb hby d8_0) rfl rfl (XS.aloadN X0.here hx rfl (hb hby d8_1) rfl rfl (Jvm.RoadKit.acmp (g := (mkF m 2 #[rv ob1, rv sr1, .unset] [(.ref sr1), (.ref ob1)])) X0 hx rfl rfl rfl (pc0 := 2) (pc' := 7) (same := false) rfl (hb hby d8_2) rfl (decide_eq_false fun q => ne1 (Value.ref.inj q)) (by decide) (by decide) kz))) ?_
  show Goes p e below (s₁.setTop (mkF m 7 #[rv ob1, rv sr1, .unset] [])) _
  refine Goes.by (fun _ kz => XS.aloadN X0.here hx rfl (hb hby d8_7) rfl rfl kz) ?_
  obtain ⟨T227, X227, e227, st227⟩ := instNo X0 hx hZ hown (wd hw 66 rfl) e0 E_sr (own_noGV (wd hw 78 rfl) (wd hw 79 rfl) (wd hw 11 rfl)) (g := (mkF m 8 #[rv ob1, rv sr1, .unset] [(.ref sr1)])) rfl rfl (hb hby d8_8)
  refine Goes.by st227 ?_
  refine Goes.by (fun _ kz => XS.ifNo X227.here hx rfl (hb hby d8_11) rfl ((if0 _ _).trans (teq (by decide : (0 : Int32) = (0 : Int32))).2) (XS.iconst X227.here hx rfl (hb hby d8_14) kz)) ?_
  show Goes p e below (T227.setTop (mkF m 15 #[rv ob1, rv sr1, .unset] [(.int 0)])) _
  obtain ⟨fs, hr, hrun, hended, hW, hsame⟩ := X227.leave (v := some (.int 0)) (fun h => by rw [Bd.returns] at h; cases h)
  exact ⟨_, _, retN X227 hx (t := .boolean) Bd.returns (by simp) (hb hby d8_15) hr, hrun, hended, _, _, rfl, ⟨rfl, N0, e227⟩, ⟨_, rfl⟩, hW, hsame.mono (by decide) (by decide)⟩
set_option maxRecDepth 65536 in
set_option maxHeartbeats 40000000 in
theorem rm0 (l : Launch) (Z : State) (a0 : Array Value) (hw : ∀ d ∈ tables_1, d.before a0 Z = true) (ws : List Jvm.Cond) (h0 : Heap) (n0 : Nat) (Z0 : n0 ≤ h0.size) (p1 : Int64) (p2 : Int64) (p3 : Int64) (p4 : Int64) (p5 : Int32) (p6 : Int32) (w : Nat → Addr) (zc : Int32) (P : Pins Z h0 w) (Sc : Sta Z h0 "java/lang/String" "COMPACT_STRINGS" "Z" (.int zc)) (hzc : ¬ zc = 0) :
    MetFree l x (head1 (Jvm.Cond.code x code maxLocals ret :: ws) room_1) (fun a U => a = #[(.long p1), (.long p2), (.long p3), (.long p4), (.int p5), (.int p6)] ∧ Z.Warmed39 U.vm ∧ U.heap = h0) (fun _ _ _ _ _ => True) (fun _ U o U' => ∃ v L, o = .returned v ∧ QL n0 v U'.heap L ∧ FrameEnd U o U' L 12 39) := by
  refine MetFree.of_bodySF (plainFor_of_name pn1) hisR ?_
  intro p e s m args below meth c s₁ Bd hml0 hP hK
  obtain ⟨rfl, hZ, hh⟩ := hP
  have hx := Bd.exec
  have hby := Bd.bytes
  have hml : c.maxLocals = 36 := hml0
  have hown : s.vm.findClass "com/example/killdeer/killdeer/GadgetViewEqualsPinLaw" = some m.cls := findClass_of_methodNamed Bd.named
  have hnm := (name_of_methodNamed Bd.named Bd.method).1
  have X0 : Stand p l e room_1 s m #[(.long p1), (.long p2), (.long p3), (.long p4), (.int p5), (.int p6)] below meth c s₁ [] 0 0 := Stand.of_body Bd
  have e0 : s₁.heap = h0 := by rw [← hh, Bd.state]; rfl
  have N0 := Fr.nil n0
  have pne_2_0 := (own_ne_2_0 P)
  have pne_2_1 := (own_ne_2_1 P)
  have pne_0_1 := (own_ne_0_1 P)
  have hws : ∀ d ∈ StrChars.Road.words, d.before a0 Z = true := fun d hd => hw d ((by decide +kernel : ∀ d ∈ StrChars.Road.words, d ∈ tables_1) d hd)
  have pne01 : w 0 ≠ w 1 := pne_0_1
  have pne02 : w 0 ≠ w 2 := (Ne.symm pne_2_0)
  have pne12 : w 1 ≠ w 2 := (Ne.symm pne_2_1)
  refine Goes.out (Goes.by (fun tz kz => castTop (ef0_JJJJII m p1 p2 p3 p4 p5 p6) kz) ?_)
  show Goes p e below (s₁.setTop (mkF m 0 #[lv p1, .second, lv p2, .second, lv p3, .second, lv p4, .second, iv p5, iv p6, .unset, .unset, .unset, .unset, .unset, .unset, .unset, .unset, .unset, .unset, .unset, .unset, .unset, .unset, .unset, .unset, .unset, .unset, .unset, .unset, .unset, .unset, .unset, .unset, .unset, .unset] [])) _
  refine Goes.by (fun _ kz => XS.iconst X0.here hx rfl (hb hby at_0) kz) ?_
  obtain ⟨T1, h1, k1, X1, e1, E1, A1, O1, st1⟩ := newR X0 hx hZ hown (wd hw 0 rfl) (wd hw 1 rfl) e0 (g := (mkF m 1 #[lv p1, .second, lv p2, .second, lv p3, .second, lv p4, .second, iv p5, iv p6, .unset, .unset, .unset, .unset, .unset, .unset, .unset, .unset, .unset, .unset, .unset, .unset, .unset, .unset, .unset, .unset, .unset, .unset, .unset, .unset, .unset, .unset, .unset, .unset, .unset, .unset] [(.int 3)])) rfl (hb hby at_1) rfl (by decide) (cap := 3) (by decide) (by decide) (by decide) (by decide)
  obtain ⟨b1, g1⟩ : ∃ z, z = h0.size := ⟨_, rfl⟩
  rw [← g1] at A1 st1
  have ne1__w_0_ : (w 0) ≠ b1 := Nat.ne_of_lt (Nat.lt_of_lt_of_le P.2.1.lt (Nat.le_of_eq g1.symm))
  have ne1__w_1_ : (w 1) ≠ b1 := Nat.ne_of_lt (Nat.lt_of_lt_of_le P.2.2.2.1.lt (Nat.le_of_eq g1.symm))
  have ne1__w_2_ : (w 2) ≠ b1 := Nat.ne_of_lt (Nat.lt_of_lt_of_le P.2.2.2.2.2.1.lt (Nat.le_of_eq g1.symm))
  have g_b1 : n0 ≤ b1 := Nat.le_trans Z0 (Nat.le_of_eq g1.symm)
  have sz_b1 : h0.size ≤ b1 := Nat.le_of_eq g1.symm
  have V1 : Arv Z h1 b1 k1 (.object "com/example/killdeer/killdeer/GadgetView$Obscured") (3 : Int32) [.null, .null, .null] .null := (Arv.new A1 (by decide)).pad (pad_rep [] .null 3)
  have K1 : Keep h0 h1 [] := Keep.ext (Keep.refl h0 []) E1
  have Z1 : n0 ≤ h1.size := Nat.le_trans Z0 E1.1
  refine Goes.by st1 ?_
  refine Goes.by (fun _ kz => XS.dup X1.here hx rfl (hb hby at_4) rfl rfl (XS.iconst X1.here hx rfl (hb hby at_5) kz)) ?_
  have f2 := (P.1.ext E1)
  obtain ⟨T3, X3, e3, st3⟩ := getS2 X1 hx hZ hown (host := "") (Or.inl (wd hw 2 rfl)) Via.refl e1 f2 (g := (mkF m 6 #[lv p1, .second, lv p2, .second, lv p3, .second, lv p4, .second, iv p5, iv p6, .unset, .unset, .unset, .unset, .unset, .unset, .unset, .unset, .unset, .unset, .unset, .unset, .unset, .unset, .unset, .unset, .unset, .unset, .unset, .unset, .unset, .unset, .unset, .unset, .unset, .unset] [(.int 0), (.ref b1), (.ref b1)])) rfl (hb hby at_6)
  refine Goes.by st3 ?_
  obtain ⟨cl4, Ar4, Cq4, Sz4, Nn4, Hh4, Gg4⟩ := id V1
  have hin4 : ¬ ((0 : Int32) < 0 ∨ cl4.slots.size ≤ ((0 : Int32)).toNatClampNeg) := inb_of Sz4 ⟨by decide, by decide⟩
  have f5 := (P.2.1.ext E1)
  obtain ⟨T4, h4, X4, e4, W4, st4⟩ := stR X3 hx hZ e3 Ar4 (j := (0 : Int32)) hin4 rfl (Sto.ofV Ar4 Cq4 O1 (Ins.self f5)) (g := (mkF m 9 #[lv p1, .second, lv p2, .second, lv p3, .second, lv p4, .second, iv p5, iv p6, .unset, .unset, .unset, .unset, .unset, .unset, .unset, .unset, .unset, .unset, .unset, .unset, .unset, .unset, .unset, .unset, .unset, .unset, .unset, .unset, .unset, .unset, .unset, .unset, .unset, .unset] [(.ref (w 0)), (.int 0), (.ref b1), (.ref b1)])) rfl rfl (hb hby at_9)
  have V4 : Arv Z h4 b1 k1 (.object "com/example/killdeer/killdeer/GadgetView$Obscured") (3 : Int32) [(.ref (w 0)), .null, .null] .null := Arv.set Ar4 Cq4 Sz4 Nn4 Hh4 Gg4 rfl W4 0 rfl (Nat.le_of_ble_eq_true rfl)
  have K4 : Keep h0 h4 [] := Keep.wr K1 W4 (Or.inr sz_b1)
  have Z4 : n0 ≤ h4.size := Nat.le_trans Z1 (Keep.of_wr W4).1
  have N4 := Fr.snoc X4 N0 g_b1
  refine Goes.by st4 ?_
  refine Goes.by (fun _ kz => XS.dup X4.here hx rfl (hb hby at_10) rfl rfl (XS.iconst X4.here hx rfl (hb hby at_11) kz)) ?_
  have f6 := (Sta.wr W4 (P.2.2.1.ext E1))
  obtain ⟨T7, X7, e7, st7⟩ := getS2 X4 hx hZ hown (host := "") (Or.inl (wd hw 6 rfl)) Via.refl e4 f6 (g := (mkF m 12 #[lv p1, .second, lv p2, .second, lv p3, .second, lv p4, .second, iv p5, iv p6, .unset, .unset, .unset, .unset, .unset, .unset, .unset, .unset, .unset, .unset, .unset, .unset, .unset, .unset, .unset, .unset, .unset, .unset, .unset, .unset, .unset, .unset, .unset, .unset, .unset, .unset] [(.int 1), (.ref b1), (.ref b1)])) rfl (hb hby at_12)
  refine Goes.by st7 ?_
  obtain ⟨cl8, Ar8, Cq8, Sz8, Nn8, Hh8, Gg8⟩ := id V4
  have hin8 : ¬ ((1 : Int32) < 0 ∨ cl8.slots.size ≤ ((1 : Int32)).toNatClampNeg) := inb_of Sz8 ⟨by decide, by decide⟩
  have f9 := (Exa.wr W4 (P.2.2.2.1.ext E1))
  obtain ⟨T8, h8, X8, e8, W8, st8⟩ := stR X7 hx hZ e7 Ar8 (j := (1 : Int32)) hin8 rfl (Sto.ofV Ar8 Cq8 O1 (Ins.self f9)) (g := (mkF m 15 #[lv p1, .second, lv p2, .second, lv p3, .second, lv p4, .second, iv p5, iv p6, .unset, .unset, .unset, .unset, .unset, .unset, .unset, .unset, .unset, .unset, .unset, .unset, .unset, .unset, .unset, .unset, .unset, .unset, .unset, .unset, .unset, .unset, .unset, .unset, .unset, .unset] [(.ref (w 1)), (.int 1), (.ref b1), (.ref b1)])) rfl rfl (hb hby at_15)
  have V8 : Arv Z h8 b1 k1 (.object "com/example/killdeer/killdeer/GadgetView$Obscured") (3 : Int32) [(.ref (w 0)), (.ref (w 1)), .null] .null := Arv.set Ar8 Cq8 Sz8 Nn8 Hh8 Gg8 rfl W8 1 rfl (Nat.le_of_ble_eq_true rfl)
  have K8 : Keep h0 h8 [] := Keep.wr K4 W8 (Or.inr sz_b1)
  have Z8 : n0 ≤ h8.size := Nat.le_trans Z4 (Keep.of_wr W8).1
  have N8 := Fr.snoc X8 N4 g_b1
  refine Goes.by st8 ?_
  refine Goes.by (fun _ kz => XS.dup X8.here hx rfl (hb hby at_16) rfl rfl (XS.iconst X8.here hx rfl (hb hby at_17) kz)) ?_
  have f10 := (Sta.wr W8 (Sta.wr W4 (P.2.2.2.2.1.ext E1)))
  obtain ⟨T11, X11, e11, st11⟩ := getS2 X8 hx hZ hown (host := "") (Or.inl (wd hw 8 rfl)) Via.refl e8 f10 (g := (mkF m 18 #[lv p1, .second, lv p2, .second, lv p3, .second, lv p4, .second, iv p5, iv p6, .unset, .unset, .unset, .unset, .unset, .unset, .unset, .unset, .unset, .unset, .unset, .unset, .unset, .unset, .unset, .unset, .unset, .unset, .unset, .unset, .unset, .unset, .unset, .unset, .unset, .unset] [(.int 2), (.ref b1), (.ref b1)])) rfl (hb hby at_18)
  refine Goes.by st11 ?_
  obtain ⟨cl12, Ar12, Cq12, Sz12, Nn12, Hh12, Gg12⟩ := id V8
  have hin12 : ¬ ((2 : Int32) < 0 ∨ cl12.slots.size ≤ ((2 : Int32)).toNatClampNeg) := inb_of Sz12 ⟨by decide, by decide⟩
  have f13 := (Exa.wr W8 (Exa.wr W4 (P.2.2.2.2.2.1.ext E1)))
  obtain ⟨T12, h12, X12, e12, W12, st12⟩ := stR X11 hx hZ e11 Ar12 (j := (2 : Int32)) hin12 rfl (Sto.ofV Ar12 Cq12 O1 (Ins.self f13)) (g := (mkF m 21 #[lv p1, .second, lv p2, .second, lv p3, .second, lv p4, .second, iv p5, iv p6, .unset, .unset, .unset, .unset, .unset, .unset, .unset, .unset, .unset, .unset, .unset, .unset, .unset, .unset, .unset, .unset, .unset, .unset, .unset, .unset, .unset, .unset, .unset, .unset, .unset, .unset] [(.ref (w 2)), (.int 2), (.ref b1), (.ref b1)])) rfl rfl (hb hby at_21)
  have V12 : Arv Z h12 b1 k1 (.object "com/example/killdeer/killdeer/GadgetView$Obscured") (3 : Int32) [(.ref (w 0)), (.ref (w 1)), (.ref (w 2))] .null := Arv.set Ar12 Cq12 Sz12 Nn12 Hh12 Gg12 rfl W12 2 rfl (Nat.le_of_ble_eq_true rfl)
  have K12 : Keep h0 h12 [] := Keep.wr K8 W12 (Or.inr sz_b1)
  have Z12 : n0 ≤ h12.size := Nat.le_trans Z8 (Keep.of_wr W12).1
  have N12 := Fr.snoc X12 N8 g_b1
  refine Goes.by st12 ?_
  refine Goes.by (fun _ kz => XS.astore X12.here hx rfl (hb hby at_22) rfl rfl rfl (XS.iload X12.here hx rfl (hb hby at_24) rfl (XS.iconst X12.here hx rfl (hb hby at_26) kz))) ?_
  show Goes p e below (T12.setTop (mkF m 27 #[lv p1, .second, lv p2, .second, lv p3, .second, lv p4, .second, iv p5, iv p6, rv b1, .unset, .unset, .unset, .unset, .unset, .unset, .unset, .unset, .unset, .unset, .unset, .unset, .unset, .unset, .unset, .unset, .unset, .unset, .unset, .unset, .unset, .unset, .unset, .unset, .unset] [(.int 1), (.int p5)])) _
  refine Goes.by (fun _ kz => XS.iand X12.here hx rfl (hb hby at_27) rfl kz) ?_
  show Goes p e below (T12.setTop (mkF m 28 #[lv p1, .second, lv p2, .second, lv p3, .second, lv p4, .second, iv p5, iv p6, rv b1, .unset, .unset, .unset, .unset, .unset, .unset, .unset, .unset, .unset, .unset, .unset, .unset, .unset, .unset, .unset, .unset, .unset, .unset, .unset, .unset, .unset, .unset, .unset, .unset, .unset] [(.int (p5 &&& (1 : Int32)))])) _
  refine Goes.join (fun z1 : Int32 => z1 = 0 ∨ z1 = 1) (fun z1 => T12.setTop (mkF m 36 #[lv p1, .second, lv p2, .second, lv p3, .second, lv p4, .second, iv p5, iv p6, rv b1, .unset, .unset, .unset, .unset, .unset, .unset, .unset, .unset, .unset, .unset, .unset, .unset, .unset, .unset, .unset, .unset, .unset, .unset, .unset, .unset, .unset, .unset, .unset, .unset, .unset] [(.int z1)])) (fun J => ?_) (fun z1 hz1 => ?_)
  · show Goes p e below (T12.setTop (mkF m 28 #[lv p1, .second, lv p2, .second, lv p3, .second, lv p4, .second, iv p5, iv p6, rv b1, .unset, .unset, .unset, .unset, .unset, .unset, .unset, .unset, .unset, .unset, .unset, .unset, .unset, .unset, .unset, .unset, .unset, .unset, .unset, .unset, .unset, .unset, .unset, .unset, .unset] [(.int (p5 &&& (1 : Int32)))])) _
    by_cases hc14 : (p5 &&& (1 : Int32)) = (0 : Int32)
    · refine Goes.by (fun _ kz => XS.ifYes X12.here hx rfl (pc0 := 28) (pc' := 35) rfl (hb hby at_28) rfl ((if0 _ _).trans (teq hc14).1) (by decide) (by decide) (XS.iconst X12.here hx rfl (hb hby at_35) kz)) ?_
      show Goes p e below (T12.setTop (mkF m 36 #[lv p1, .second, lv p2, .second, lv p3, .second, lv p4, .second, iv p5, iv p6, rv b1, .unset, .unset, .unset, .unset, .unset, .unset, .unset, .unset, .unset, .unset, .unset, .unset, .unset, .unset, .unset, .unset, .unset, .unset, .unset, .unset, .unset, .unset, .unset, .unset, .unset] [(.int 0)])) _
      exact J (0 : Int32) (by decide)
    · refine Goes.by (fun _ kz => XS.ifNo X12.here hx rfl (hb hby at_28) rfl ((if0 _ _).trans (feq hc14).1) (XS.iconst X12.here hx rfl (hb hby at_31) (XS.goto X12.here hx rfl (pc0 := 32) (pc' := 36) rfl (hb hby at_32) (by decide) (by decide) kz))) ?_
      show Goes p e below (T12.setTop (mkF m 36 #[lv p1, .second, lv p2, .second, lv p3, .second, lv p4, .second, iv p5, iv p6, rv b1, .unset, .unset, .unset, .unset, .unset, .unset, .unset, .unset, .unset, .unset, .unset, .unset, .unset, .unset, .unset, .unset, .unset, .unset, .unset, .unset, .unset, .unset, .unset, .unset, .unset] [(.int 1)])) _
      exact J (1 : Int32) (by decide)
  show Goes p e below (T12.setTop (mkF m 36 #[lv p1, .second, lv p2, .second, lv p3, .second, lv p4, .second, iv p5, iv p6, rv b1, .unset, .unset, .unset, .unset, .unset, .unset, .unset, .unset, .unset, .unset, .unset, .unset, .unset, .unset, .unset, .unset, .unset, .unset, .unset, .unset, .unset, .unset, .unset, .unset, .unset] [(.int z1)])) _
  refine Goes.by (fun _ kz => XS.istore X12.here hx rfl (hb hby at_36) rfl rfl (XS.iload X12.here hx rfl (hb hby at_38) rfl (XS.iconst X12.here hx rfl (hb hby at_40) kz))) ?_
  show Goes p e below (T12.setTop (mkF m 41 #[lv p1, .second, lv p2, .second, lv p3, .second, lv p4, .second, iv p5, iv p6, rv b1, iv z1, .unset, .unset, .unset, .unset, .unset, .unset, .unset, .unset, .unset, .unset, .unset, .unset, .unset, .unset, .unset, .unset, .unset, .unset, .unset, .unset, .unset, .unset, .unset, .unset] [(.int 2), (.int p5)])) _
  refine Goes.by (fun _ kz => XS.iand X12.here hx rfl (hb hby at_41) rfl kz) ?_
  show Goes p e below (T12.setTop (mkF m 42 #[lv p1, .second, lv p2, .second, lv p3, .second, lv p4, .second, iv p5, iv p6, rv b1, iv z1, .unset, .unset, .unset, .unset, .unset, .unset, .unset, .unset, .unset, .unset, .unset, .unset, .unset, .unset, .unset, .unset, .unset, .unset, .unset, .unset, .unset, .unset, .unset, .unset] [(.int (p5 &&& (2 : Int32)))])) _
  refine Goes.join (fun z2 : Int32 => z2 = 0 ∨ z2 = 1) (fun z2 => T12.setTop (mkF m 50 #[lv p1, .second, lv p2, .second, lv p3, .second, lv p4, .second, iv p5, iv p6, rv b1, iv z1, .unset, .unset, .unset, .unset, .unset, .unset, .unset, .unset, .unset, .unset, .unset, .unset, .unset, .unset, .unset, .unset, .unset, .unset, .unset, .unset, .unset, .unset, .unset, .unset] [(.int z2)])) (fun J => ?_) (fun z2 hz2 => ?_)
  · show Goes p e below (T12.setTop (mkF m 42 #[lv p1, .second, lv p2, .second, lv p3, .second, lv p4, .second, iv p5, iv p6, rv b1, iv z1, .unset, .unset, .unset, .unset, .unset, .unset, .unset, .unset, .unset, .unset, .unset, .unset, .unset, .unset, .unset, .unset, .unset, .unset, .unset, .unset, .unset, .unset, .unset, .unset] [(.int (p5 &&& (2 : Int32)))])) _
    by_cases hc15 : (p5 &&& (2 : Int32)) = (0 : Int32)
    · refine Goes.by (fun _ kz => XS.ifYes X12.here hx rfl (pc0 := 42) (pc' := 49) rfl (hb hby at_42) rfl ((if0 _ _).trans (teq hc15).1) (by decide) (by decide) (XS.iconst X12.here hx rfl (hb hby at_49) kz)) ?_
      show Goes p e below (T12.setTop (mkF m 50 #[lv p1, .second, lv p2, .second, lv p3, .second, lv p4, .second, iv p5, iv p6, rv b1, iv z1, .unset, .unset, .unset, .unset, .unset, .unset, .unset, .unset, .unset, .unset, .unset, .unset, .unset, .unset, .unset, .unset, .unset, .unset, .unset, .unset, .unset, .unset, .unset, .unset] [(.int 0)])) _
      exact J (0 : Int32) (by decide)
    · refine Goes.by (fun _ kz => XS.ifNo X12.here hx rfl (hb hby at_42) rfl ((if0 _ _).trans (feq hc15).1) (XS.iconst X12.here hx rfl (hb hby at_45) (XS.goto X12.here hx rfl (pc0 := 46) (pc' := 50) rfl (hb hby at_46) (by decide) (by decide) kz))) ?_
      show Goes p e below (T12.setTop (mkF m 50 #[lv p1, .second, lv p2, .second, lv p3, .second, lv p4, .second, iv p5, iv p6, rv b1, iv z1, .unset, .unset, .unset, .unset, .unset, .unset, .unset, .unset, .unset, .unset, .unset, .unset, .unset, .unset, .unset, .unset, .unset, .unset, .unset, .unset, .unset, .unset, .unset, .unset] [(.int 1)])) _
      exact J (1 : Int32) (by decide)
  show Goes p e below (T12.setTop (mkF m 50 #[lv p1, .second, lv p2, .second, lv p3, .second, lv p4, .second, iv p5, iv p6, rv b1, iv z1, .unset, .unset, .unset, .unset, .unset, .unset, .unset, .unset, .unset, .unset, .unset, .unset, .unset, .unset, .unset, .unset, .unset, .unset, .unset, .unset, .unset, .unset, .unset, .unset] [(.int z2)])) _
  refine Goes.by (fun _ kz => XS.istore X12.here hx rfl (hb hby at_50) rfl rfl (XS.iload X12.here hx rfl (hb hby at_52) rfl (XS.iconst X12.here hx rfl (hb hby at_54) kz))) ?_
  show Goes p e below (T12.setTop (mkF m 55 #[lv p1, .second, lv p2, .second, lv p3, .second, lv p4, .second, iv p5, iv p6, rv b1, iv z1, iv z2, .unset, .unset, .unset, .unset, .unset, .unset, .unset, .unset, .unset, .unset, .unset, .unset, .unset, .unset, .unset, .unset, .unset, .unset, .unset, .unset, .unset, .unset, .unset] [(.int 2), (.int p5)])) _
  refine Goes.by (fun _ kz => XS.iushr X12.here hx rfl (hb hby at_55) rfl (XS.bipush X12.here hx rfl (hb hby at_56) (XS.iand X12.here hx rfl (hb hby at_58) rfl kz))) ?_
  show Goes p e below (T12.setTop (mkF m 59 #[lv p1, .second, lv p2, .second, lv p3, .second, lv p4, .second, iv p5, iv p6, rv b1, iv z1, iv z2, .unset, .unset, .unset, .unset, .unset, .unset, .unset, .unset, .unset, .unset, .unset, .unset, .unset, .unset, .unset, .unset, .unset, .unset, .unset, .unset, .unset, .unset, .unset] [(.int (((p5.toUInt32 >>> ((2 : Int32) &&& 31).toUInt32).toInt32) &&& (63 : Int32)))])) _
  refine Goes.by (fun _ kz => XS.iconst X12.here hx rfl (hb hby at_59) (iremM X12 hx rfl (hb hby at_60) rfl (by decide) (XS.istore X12.here hx rfl (hb hby at_61) rfl rfl kz))) ?_
  show Goes p e below (T12.setTop (mkF m 63 #[lv p1, .second, lv p2, .second, lv p3, .second, lv p4, .second, iv p5, iv p6, rv b1, iv z1, iv z2, iv ((((p5.toUInt32 >>> ((2 : Int32) &&& 31).toUInt32).toInt32) &&& (63 : Int32)) % (3 : Int32)), .unset, .unset, .unset, .unset, .unset, .unset, .unset, .unset, .unset, .unset, .unset, .unset, .unset, .unset, .unset, .unset, .unset, .unset, .unset, .unset, .unset, .unset] [])) _
  obtain ⟨oi, e_oi⟩ : ∃ z, z = ((((p5.toUInt32 >>> ((2 : Int32) &&& 31).toUInt32).toInt32) &&& (63 : Int32)) % (3 : Int32)) := ⟨_, rfl⟩
  rw [← e_oi]
  have h_oi : oi = 0 ∨ oi = 1 ∨ oi = 2 := by rw [e_oi]; exact own_63 _
  show Goes p e below (T12.setTop (mkF m 63 #[lv p1, .second, lv p2, .second, lv p3, .second, lv p4, .second, iv p5, iv p6, rv b1, iv z1, iv z2, iv oi, .unset, .unset, .unset, .unset, .unset, .unset, .unset, .unset, .unset, .unset, .unset, .unset, .unset, .unset, .unset, .unset, .unset, .unset, .unset, .unset, .unset, .unset] [])) _
  refine Goes.by (fun _ kz => XS.iload X12.here hx rfl (hb hby at_63) rfl (XS.bipush X12.here hx rfl (hb hby at_65) (XS.iushr X12.here hx rfl (hb hby at_67) rfl kz))) ?_
  show Goes p e below (T12.setTop (mkF m 68 #[lv p1, .second, lv p2, .second, lv p3, .second, lv p4, .second, iv p5, iv p6, rv b1, iv z1, iv z2, iv oi, .unset, .unset, .unset, .unset, .unset, .unset, .unset, .unset, .unset, .unset, .unset, .unset, .unset, .unset, .unset, .unset, .unset, .unset, .unset, .unset, .unset, .unset] [(.int ((p5.toUInt32 >>> ((8 : Int32) &&& 31).toUInt32).toInt32))])) _
  refine Goes.by (fun _ kz => XS.sipush X12.here hx rfl (hb hby at_68) (XS.iand X12.here hx rfl (hb hby at_71) rfl (XS.iconst X12.here hx rfl (hb hby at_72) kz))) ?_
  show Goes p e below (T12.setTop (mkF m 73 #[lv p1, .second, lv p2, .second, lv p3, .second, lv p4, .second, iv p5, iv p6, rv b1, iv z1, iv z2, iv oi, .unset, .unset, .unset, .unset, .unset, .unset, .unset, .unset, .unset, .unset, .unset, .unset, .unset, .unset, .unset, .unset, .unset, .unset, .unset, .unset, .unset, .unset] [(.int 3), (.int (((p5.toUInt32 >>> ((8 : Int32) &&& 31).toUInt32).toInt32) &&& (255 : Int32)))])) _
  refine Goes.by (fun _ kz => iremM X12 hx rfl (hb hby at_73) rfl (by decide) (XS.istore X12.here hx rfl (hb hby at_74) rfl rfl kz)) ?_
  show Goes p e below (T12.setTop (mkF m 76 #[lv p1, .second, lv p2, .second, lv p3, .second, lv p4, .second, iv p5, iv p6, rv b1, iv z1, iv z2, iv oi, iv ((((p5.toUInt32 >>> ((8 : Int32) &&& 31).toUInt32).toInt32) &&& (255 : Int32)) % (3 : Int32)), .unset, .unset, .unset, .unset, .unset, .unset, .unset, .unset, .unset, .unset, .unset, .unset, .unset, .unset, .unset, .unset, .unset, .unset, .unset, .unset, .unset] [])) _
  obtain ⟨oj, e_oj⟩ : ∃ z, z = ((((p5.toUInt32 >>> ((8 : Int32) &&& 31).toUInt32).toInt32) &&& (255 : Int32)) % (3 : Int32)) := ⟨_, rfl⟩
  rw [← e_oj]
  have h_oj : oj = 0 ∨ oj = 1 ∨ oj = 2 := by rw [e_oj]; exact own_255 _
  show Goes p e below (T12.setTop (mkF m 76 #[lv p1, .second, lv p2, .second, lv p3, .second, lv p4, .second, iv p5, iv p6, rv b1, iv z1, iv z2, iv oi, iv oj, .unset, .unset, .unset, .unset, .unset, .unset, .unset, .unset, .unset, .unset, .unset, .unset, .unset, .unset, .unset, .unset, .unset, .unset, .unset, .unset, .unset] [])) _
  refine Goes.by (fun _ kz => XS.iload X12.here hx rfl (hb hby at_76) rfl (XS.bipush X12.here hx rfl (hb hby at_78) (XS.iushr X12.here hx rfl (hb hby at_80) rfl kz))) ?_
  show Goes p e below (T12.setTop (mkF m 81 #[lv p1, .second, lv p2, .second, lv p3, .second, lv p4, .second, iv p5, iv p6, rv b1, iv z1, iv z2, iv oi, iv oj, .unset, .unset, .unset, .unset, .unset, .unset, .unset, .unset, .unset, .unset, .unset, .unset, .unset, .unset, .unset, .unset, .unset, .unset, .unset, .unset, .unset] [(.int ((p5.toUInt32 >>> ((16 : Int32) &&& 31).toUInt32).toInt32))])) _
  refine Goes.by (fun _ kz => XS.sipush X12.here hx rfl (hb hby at_81) (XS.iand X12.here hx rfl (hb hby at_84) rfl (XS.i2c X12.here hx rfl (hb hby at_85) rfl kz))) ?_
  show Goes p e below (T12.setTop (mkF m 86 #[lv p1, .second, lv p2, .second, lv p3, .second, lv p4, .second, iv p5, iv p6, rv b1, iv z1, iv z2, iv oi, iv oj, .unset, .unset, .unset, .unset, .unset, .unset, .unset, .unset, .unset, .unset, .unset, .unset, .unset, .unset, .unset, .unset, .unset, .unset, .unset, .unset, .unset] [(.int ((((p5.toUInt32 >>> ((16 : Int32) &&& 31).toUInt32).toInt32) &&& (255 : Int32)).toUInt32.toUInt16.toUInt32.toInt32))])) _
  refine Goes.by (fun _ kz => XS.istore X12.here hx rfl (hb hby at_86) rfl rfl kz) ?_
  show Goes p e below (T12.setTop (mkF m 88 #[lv p1, .second, lv p2, .second, lv p3, .second, lv p4, .second, iv p5, iv p6, rv b1, iv z1, iv z2, iv oi, iv oj, iv ((((p5.toUInt32 >>> ((16 : Int32) &&& 31).toUInt32).toInt32) &&& (255 : Int32)).toUInt32.toUInt16.toUInt32.toInt32), .unset, .unset, .unset, .unset, .unset, .unset, .unset, .unset, .unset, .unset, .unset, .unset, .unset, .unset, .unset, .unset, .unset, .unset, .unset, .unset] [])) _
  obtain ⟨ch0, e_ch0⟩ : ∃ z, z = ((((p5.toUInt32 >>> ((16 : Int32) &&& 31).toUInt32).toInt32) &&& (255 : Int32)).toUInt32.toUInt16.toUInt32.toInt32) := ⟨_, rfl⟩
  rw [← e_ch0]
  have hb_ch0 : ¬ ch0 < 0 ∧ ¬ (255 : Int32) < ch0 := by rw [e_ch0]; exact (own_char _).1
  have hn_ch0 : nar .char ch0 = ch0 := by rw [e_ch0]; exact (own_char _).2
  show Goes p e below (T12.setTop (mkF m 88 #[lv p1, .second, lv p2, .second, lv p3, .second, lv p4, .second, iv p5, iv p6, rv b1, iv z1, iv z2, iv oi, iv oj, iv ch0, .unset, .unset, .unset, .unset, .unset, .unset, .unset, .unset, .unset, .unset, .unset, .unset, .unset, .unset, .unset, .unset, .unset, .unset, .unset, .unset] [])) _
  refine Goes.by (fun _ kz => XS.iload X12.here hx rfl (hb hby at_88) rfl (XS.bipush X12.here hx rfl (hb hby at_90) (XS.iushr X12.here hx rfl (hb hby at_92) rfl kz))) ?_
  show Goes p e below (T12.setTop (mkF m 93 #[lv p1, .second, lv p2, .second, lv p3, .second, lv p4, .second, iv p5, iv p6, rv b1, iv z1, iv z2, iv oi, iv oj, iv ch0, .unset, .unset, .unset, .unset, .unset, .unset, .unset, .unset, .unset, .unset, .unset, .unset, .unset, .unset, .unset, .unset, .unset, .unset, .unset, .unset] [(.int ((p5.toUInt32 >>> ((24 : Int32) &&& 31).toUInt32).toInt32))])) _
  refine Goes.by (fun _ kz => XS.sipush X12.here hx rfl (hb hby at_93) (XS.iand X12.here hx rfl (hb hby at_96) rfl (XS.i2c X12.here hx rfl (hb hby at_97) rfl kz))) ?_
  show Goes p e below (T12.setTop (mkF m 98 #[lv p1, .second, lv p2, .second, lv p3, .second, lv p4, .second, iv p5, iv p6, rv b1, iv z1, iv z2, iv oi, iv oj, iv ch0, .unset, .unset, .unset, .unset, .unset, .unset, .unset, .unset, .unset, .unset, .unset, .unset, .unset, .unset, .unset, .unset, .unset, .unset, .unset, .unset] [(.int ((((p5.toUInt32 >>> ((24 : Int32) &&& 31).toUInt32).toInt32) &&& (255 : Int32)).toUInt32.toUInt16.toUInt32.toInt32))])) _
  refine Goes.by (fun _ kz => XS.istore X12.here hx rfl (hb hby at_98) rfl rfl kz) ?_
  show Goes p e below (T12.setTop (mkF m 100 #[lv p1, .second, lv p2, .second, lv p3, .second, lv p4, .second, iv p5, iv p6, rv b1, iv z1, iv z2, iv oi, iv oj, iv ch0, iv ((((p5.toUInt32 >>> ((24 : Int32) &&& 31).toUInt32).toInt32) &&& (255 : Int32)).toUInt32.toUInt16.toUInt32.toInt32), .unset, .unset, .unset, .unset, .unset, .unset, .unset, .unset, .unset, .unset, .unset, .unset, .unset, .unset, .unset, .unset, .unset, .unset, .unset] [])) _
  obtain ⟨ch1, e_ch1⟩ : ∃ z, z = ((((p5.toUInt32 >>> ((24 : Int32) &&& 31).toUInt32).toInt32) &&& (255 : Int32)).toUInt32.toUInt16.toUInt32.toInt32) := ⟨_, rfl⟩
  rw [← e_ch1]
  have hb_ch1 : ¬ ch1 < 0 ∧ ¬ (255 : Int32) < ch1 := by rw [e_ch1]; exact (own_char _).1
  have hn_ch1 : nar .char ch1 = ch1 := by rw [e_ch1]; exact (own_char _).2
  show Goes p e below (T12.setTop (mkF m 100 #[lv p1, .second, lv p2, .second, lv p3, .second, lv p4, .second, iv p5, iv p6, rv b1, iv z1, iv z2, iv oi, iv oj, iv ch0, iv ch1, .unset, .unset, .unset, .unset, .unset, .unset, .unset, .unset, .unset, .unset, .unset, .unset, .unset, .unset, .unset, .unset, .unset, .unset, .unset] [])) _
  refine Goes.by (fun _ kz => XS.iload X12.here hx rfl (hb hby at_100) rfl (XS.bipush X12.here hx rfl (hb hby at_102) (XS.iushr X12.here hx rfl (hb hby at_104) rfl kz))) ?_
  show Goes p e below (T12.setTop (mkF m 105 #[lv p1, .second, lv p2, .second, lv p3, .second, lv p4, .second, iv p5, iv p6, rv b1, iv z1, iv z2, iv oi, iv oj, iv ch0, iv ch1, .unset, .unset, .unset, .unset, .unset, .unset, .unset, .unset, .unset, .unset, .unset, .unset, .unset, .unset, .unset, .unset, .unset, .unset, .unset] [(.int ((p6.toUInt32 >>> ((8 : Int32) &&& 31).toUInt32).toInt32))])) _
  refine Goes.by (fun _ kz => XS.sipush X12.here hx rfl (hb hby at_105) (XS.iand X12.here hx rfl (hb hby at_108) rfl (XS.i2c X12.here hx rfl (hb hby at_109) rfl kz))) ?_
  show Goes p e below (T12.setTop (mkF m 110 #[lv p1, .second, lv p2, .second, lv p3, .second, lv p4, .second, iv p5, iv p6, rv b1, iv z1, iv z2, iv oi, iv oj, iv ch0, iv ch1, .unset, .unset, .unset, .unset, .unset, .unset, .unset, .unset, .unset, .unset, .unset, .unset, .unset, .unset, .unset, .unset, .unset, .unset, .unset] [(.int ((((p6.toUInt32 >>> ((8 : Int32) &&& 31).toUInt32).toInt32) &&& (255 : Int32)).toUInt32.toUInt16.toUInt32.toInt32))])) _
  refine Goes.by (fun _ kz => XS.istore X12.here hx rfl (hb hby at_110) rfl rfl kz) ?_
  show Goes p e below (T12.setTop (mkF m 112 #[lv p1, .second, lv p2, .second, lv p3, .second, lv p4, .second, iv p5, iv p6, rv b1, iv z1, iv z2, iv oi, iv oj, iv ch0, iv ch1, iv ((((p6.toUInt32 >>> ((8 : Int32) &&& 31).toUInt32).toInt32) &&& (255 : Int32)).toUInt32.toUInt16.toUInt32.toInt32), .unset, .unset, .unset, .unset, .unset, .unset, .unset, .unset, .unset, .unset, .unset, .unset, .unset, .unset, .unset, .unset, .unset, .unset] [])) _
  obtain ⟨ch2, e_ch2⟩ : ∃ z, z = ((((p6.toUInt32 >>> ((8 : Int32) &&& 31).toUInt32).toInt32) &&& (255 : Int32)).toUInt32.toUInt16.toUInt32.toInt32) := ⟨_, rfl⟩
  rw [← e_ch2]
  have hb_ch2 : ¬ ch2 < 0 ∧ ¬ (255 : Int32) < ch2 := by rw [e_ch2]; exact (own_char _).1
  have hn_ch2 : nar .char ch2 = ch2 := by rw [e_ch2]; exact (own_char _).2
  show Goes p e below (T12.setTop (mkF m 112 #[lv p1, .second, lv p2, .second, lv p3, .second, lv p4, .second, iv p5, iv p6, rv b1, iv z1, iv z2, iv oi, iv oj, iv ch0, iv ch1, iv ch2, .unset, .unset, .unset, .unset, .unset, .unset, .unset, .unset, .unset, .unset, .unset, .unset, .unset, .unset, .unset, .unset, .unset, .unset] [])) _
  refine Goes.by (fun _ kz => XS.iload X12.here hx rfl (hb hby at_112) rfl (XS.bipush X12.here hx rfl (hb hby at_114) (XS.iushr X12.here hx rfl (hb hby at_116) rfl kz))) ?_
  show Goes p e below (T12.setTop (mkF m 117 #[lv p1, .second, lv p2, .second, lv p3, .second, lv p4, .second, iv p5, iv p6, rv b1, iv z1, iv z2, iv oi, iv oj, iv ch0, iv ch1, iv ch2, .unset, .unset, .unset, .unset, .unset, .unset, .unset, .unset, .unset, .unset, .unset, .unset, .unset, .unset, .unset, .unset, .unset, .unset] [(.int ((p6.toUInt32 >>> ((16 : Int32) &&& 31).toUInt32).toInt32))])) _
  refine Goes.by (fun _ kz => XS.iconst X12.here hx rfl (hb hby at_117) (XS.iand X12.here hx rfl (hb hby at_118) rfl kz)) ?_
  show Goes p e below (T12.setTop (mkF m 119 #[lv p1, .second, lv p2, .second, lv p3, .second, lv p4, .second, iv p5, iv p6, rv b1, iv z1, iv z2, iv oi, iv oj, iv ch0, iv ch1, iv ch2, .unset, .unset, .unset, .unset, .unset, .unset, .unset, .unset, .unset, .unset, .unset, .unset, .unset, .unset, .unset, .unset, .unset, .unset] [(.int (((p6.toUInt32 >>> ((16 : Int32) &&& 31).toUInt32).toInt32) &&& (1 : Int32)))])) _
  refine Goes.join (fun zB : Int32 => zB = 0 ∨ zB = 1) (fun zB => T12.setTop (mkF m 127 #[lv p1, .second, lv p2, .second, lv p3, .second, lv p4, .second, iv p5, iv p6, rv b1, iv z1, iv z2, iv oi, iv oj, iv ch0, iv ch1, iv ch2, .unset, .unset, .unset, .unset, .unset, .unset, .unset, .unset, .unset, .unset, .unset, .unset, .unset, .unset, .unset, .unset, .unset, .unset] [(.int zB)])) (fun J => ?_) (fun zB hzB => ?_)
  · show Goes p e below (T12.setTop (mkF m 119 #[lv p1, .second, lv p2, .second, lv p3, .second, lv p4, .second, iv p5, iv p6, rv b1, iv z1, iv z2, iv oi, iv oj, iv ch0, iv ch1, iv ch2, .unset, .unset, .unset, .unset, .unset, .unset, .unset, .unset, .unset, .unset, .unset, .unset, .unset, .unset, .unset, .unset, .unset, .unset] [(.int (((p6.toUInt32 >>> ((16 : Int32) &&& 31).toUInt32).toInt32) &&& (1 : Int32)))])) _
    by_cases hc16 : (((p6.toUInt32 >>> ((16 : Int32) &&& 31).toUInt32).toInt32) &&& (1 : Int32)) = (0 : Int32)
    · refine Goes.by (fun _ kz => XS.ifYes X12.here hx rfl (pc0 := 119) (pc' := 126) rfl (hb hby at_119) rfl ((if0 _ _).trans (teq hc16).1) (by decide) (by decide) (XS.iconst X12.here hx rfl (hb hby at_126) kz)) ?_
      show Goes p e below (T12.setTop (mkF m 127 #[lv p1, .second, lv p2, .second, lv p3, .second, lv p4, .second, iv p5, iv p6, rv b1, iv z1, iv z2, iv oi, iv oj, iv ch0, iv ch1, iv ch2, .unset, .unset, .unset, .unset, .unset, .unset, .unset, .unset, .unset, .unset, .unset, .unset, .unset, .unset, .unset, .unset, .unset, .unset] [(.int 0)])) _
      exact J (0 : Int32) (by decide)
    · refine Goes.by (fun _ kz => XS.ifNo X12.here hx rfl (hb hby at_119) rfl ((if0 _ _).trans (feq hc16).1) (XS.iconst X12.here hx rfl (hb hby at_122) (XS.goto X12.here hx rfl (pc0 := 123) (pc' := 127) rfl (hb hby at_123) (by decide) (by decide) kz))) ?_
      show Goes p e below (T12.setTop (mkF m 127 #[lv p1, .second, lv p2, .second, lv p3, .second, lv p4, .second, iv p5, iv p6, rv b1, iv z1, iv z2, iv oi, iv oj, iv ch0, iv ch1, iv ch2, .unset, .unset, .unset, .unset, .unset, .unset, .unset, .unset, .unset, .unset, .unset, .unset, .unset, .unset, .unset, .unset, .unset, .unset] [(.int 1)])) _
      exact J (1 : Int32) (by decide)
  show Goes p e below (T12.setTop (mkF m 127 #[lv p1, .second, lv p2, .second, lv p3, .second, lv p4, .second, iv p5, iv p6, rv b1, iv z1, iv z2, iv oi, iv oj, iv ch0, iv ch1, iv ch2, .unset, .unset, .unset, .unset, .unset, .unset, .unset, .unset, .unset, .unset, .unset, .unset, .unset, .unset, .unset, .unset, .unset, .unset] [(.int zB)])) _
  refine Goes.by (fun _ kz => XS.istore X12.here hx rfl (hb hby at_127) rfl rfl (XS.iload X12.here hx rfl (hb hby at_129) rfl (XS.bipush X12.here hx rfl (hb hby at_131) kz))) ?_
  show Goes p e below (T12.setTop (mkF m 133 #[lv p1, .second, lv p2, .second, lv p3, .second, lv p4, .second, iv p5, iv p6, rv b1, iv z1, iv z2, iv oi, iv oj, iv ch0, iv ch1, iv ch2, iv zB, .unset, .unset, .unset, .unset, .unset, .unset, .unset, .unset, .unset, .unset, .unset, .unset, .unset, .unset, .unset, .unset, .unset] [(.int 7), (.int p6)])) _
  refine Goes.by (fun _ kz => XS.iand X12.here hx rfl (hb hby at_133) rfl (XS.istore X12.here hx rfl (hb hby at_134) rfl rfl (XS.iload X12.here hx rfl (hb hby at_136) rfl kz))) ?_
  show Goes p e below (T12.setTop (mkF m 138 #[lv p1, .second, lv p2, .second, lv p3, .second, lv p4, .second, iv p5, iv p6, rv b1, iv z1, iv z2, iv oi, iv oj, iv ch0, iv ch1, iv ch2, iv zB, iv (p6 &&& (7 : Int32)), .unset, .unset, .unset, .unset, .unset, .unset, .unset, .unset, .unset, .unset, .unset, .unset, .unset, .unset, .unset, .unset] [(.int p6)])) _
  refine Goes.by (fun _ kz => XS.iconst X12.here hx rfl (hb hby at_138) (XS.iushr X12.here hx rfl (hb hby at_139) rfl (XS.iconst X12.here hx rfl (hb hby at_140) kz))) ?_
  show Goes p e below (T12.setTop (mkF m 141 #[lv p1, .second, lv p2, .second, lv p3, .second, lv p4, .second, iv p5, iv p6, rv b1, iv z1, iv z2, iv oi, iv oj, iv ch0, iv ch1, iv ch2, iv zB, iv (p6 &&& (7 : Int32)), .unset, .unset, .unset, .unset, .unset, .unset, .unset, .unset, .unset, .unset, .unset, .unset, .unset, .unset, .unset, .unset] [(.int 3), (.int ((p6.toUInt32 >>> ((4 : Int32) &&& 31).toUInt32).toInt32))])) _
  refine Goes.by (fun _ kz => XS.iand X12.here hx rfl (hb hby at_141) rfl (XS.istore X12.here hx rfl (hb hby at_142) rfl rfl kz)) ?_
  have f18 := (Exa.wr W12 (Exa.wr W8 (Exa.wr W4 f5)))
  have f19 := (Exa.wr W12 (Exa.wr W8 f9))
  have f20 := (Exa.wr W12 f13)
  obtain ⟨T17, h17, X17, e17, E17, A17, D17, -, st17⟩ := newO X12 hx hZ hown (wd hw 10 rfl) (wd hw 11 rfl) (wd hw 12 rfl) e12 (g := (mkF m 144 #[lv p1, .second, lv p2, .second, lv p3, .second, lv p4, .second, iv p5, iv p6, rv b1, iv z1, iv z2, iv oi, iv oj, iv ch0, iv ch1, iv ch2, iv zB, iv (p6 &&& (7 : Int32)), iv (((p6.toUInt32 >>> ((4 : Int32) &&& 31).toUInt32).toInt32) &&& (3 : Int32)), .unset, .unset, .unset, .unset, .unset, .unset, .unset, .unset, .unset, .unset, .unset, .unset, .unset, .unset, .unset] [])) rfl (hb hby at_144) (by decide) (by decide)
  obtain ⟨b17, g17⟩ : ∃ z, z = h12.size := ⟨_, rfl⟩
  rw [← g17] at A17 D17 st17
  have ne17__w_0_ : (w 0) ≠ b17 := Nat.ne_of_lt (Nat.lt_of_lt_of_le f18.lt (Nat.le_of_eq g17.symm))
  have ne17__w_1_ : (w 1) ≠ b17 := Nat.ne_of_lt (Nat.lt_of_lt_of_le f19.lt (Nat.le_of_eq g17.symm))
  have ne17__w_2_ : (w 2) ≠ b17 := Nat.ne_of_lt (Nat.lt_of_lt_of_le f20.lt (Nat.le_of_eq g17.symm))
  have ne17_b1 : b1 ≠ b17 := Nat.ne_of_lt (Nat.lt_of_lt_of_le V12.lt (Nat.le_of_eq g17.symm))
  have g_b17 : n0 ≤ b17 := Nat.le_trans Z12 (Nat.le_of_eq g17.symm)
  have sz_b17 : h0.size ≤ b17 := Nat.le_trans K12.1 (Nat.le_of_eq g17.symm)
  have F17_visible : Fld Z h17 b17 "com/example/killdeer/killdeer/GadgetView" "visible" "Z" (.int 0) := D17 (Or.inr (wd hw 48 rfl)) (ty := .boolean) (by decide)
  have F17_appearance : Fld Z h17 b17 "com/example/killdeer/killdeer/GadgetView" "appearance" "Ljava/lang/String;" .null := D17 (Or.inr (wd hw 50 rfl)) (ty := (.object "java/lang/String")) (by decide)
  have F17_x : Fld Z h17 b17 "com/example/killdeer/killdeer/GadgetView" "x" "J" (.long 0) := D17 (Or.inr (wd hw 52 rfl)) (ty := .long) (by decide)
  have F17_y : Fld Z h17 b17 "com/example/killdeer/killdeer/GadgetView" "y" "J" (.long 0) := D17 (Or.inr (wd hw 54 rfl)) (ty := .long) (by decide)
  have F17_width : Fld Z h17 b17 "com/example/killdeer/killdeer/GadgetView" "width" "J" (.long 0) := D17 (Or.inr (wd hw 56 rfl)) (ty := .long) (by decide)
  have F17_height : Fld Z h17 b17 "com/example/killdeer/killdeer/GadgetView" "height" "J" (.long 0) := D17 (Or.inr (wd hw 58 rfl)) (ty := .long) (by decide)
  have F17_obscured : Fld Z h17 b17 "com/example/killdeer/killdeer/GadgetView" "obscured" "Lcom/example/killdeer/killdeer/GadgetView$Obscured;" .null := D17 (Or.inr (wd hw 60 rfl)) (ty := (.object "com/example/killdeer/killdeer/GadgetView$Obscured")) (by decide)
  have K17 : Keep h0 h17 [] := Keep.ext K12 E17
  have Z17 : n0 ≤ h17.size := Nat.le_trans Z12 E17.1
  refine Goes.by st17 ?_
  refine Goes.by (fun _ kz => XS.dup X17.here hx rfl (hb hby at_147) rfl rfl (XS.iload X17.here hx rfl (hb hby at_148) rfl kz)) ?_
  have f22 := (f18.ext E17)
  have f23 := (f19.ext E17)
  have f24 := (f20.ext E17)
  have f25 := (V12.ext E17)
  obtain ⟨T21, h21, X21, e21, E21, A21, D21, -, st21⟩ := newO X17 hx hZ hown (wd hw 13 rfl) (wd hw 14 rfl) (wd hw 15 rfl) e17 (g := (mkF m 150 #[lv p1, .second, lv p2, .second, lv p3, .second, lv p4, .second, iv p5, iv p6, rv b1, iv z1, iv z2, iv oi, iv oj, iv ch0, iv ch1, iv ch2, iv zB, iv (p6 &&& (7 : Int32)), iv (((p6.toUInt32 >>> ((4 : Int32) &&& 31).toUInt32).toInt32) &&& (3 : Int32)), .unset, .unset, .unset, .unset, .unset, .unset, .unset, .unset, .unset, .unset, .unset, .unset, .unset, .unset, .unset] [(.int z1), (.ref b17), (.ref b17)])) rfl (hb hby at_150) (by decide) (by decide)
  obtain ⟨b21, g21⟩ : ∃ z, z = h17.size := ⟨_, rfl⟩
  rw [← g21] at A21 D21 st21
  have ne21__w_0_ : (w 0) ≠ b21 := Nat.ne_of_lt (Nat.lt_of_lt_of_le f22.lt (Nat.le_of_eq g21.symm))
  have ne21__w_1_ : (w 1) ≠ b21 := Nat.ne_of_lt (Nat.lt_of_lt_of_le f23.lt (Nat.le_of_eq g21.symm))
  have ne21__w_2_ : (w 2) ≠ b21 := Nat.ne_of_lt (Nat.lt_of_lt_of_le f24.lt (Nat.le_of_eq g21.symm))
  have ne21_b1 : b1 ≠ b21 := Nat.ne_of_lt (Nat.lt_of_lt_of_le f25.lt (Nat.le_of_eq g21.symm))
  have ne21_b17 : b17 ≠ b21 := Nat.ne_of_lt (Nat.lt_of_lt_of_le A17.lt (Nat.le_of_eq g21.symm))
  have g_b21 : n0 ≤ b21 := Nat.le_trans Z17 (Nat.le_of_eq g21.symm)
  have sz_b21 : h0.size ≤ b21 := Nat.le_trans K17.1 (Nat.le_of_eq g21.symm)
  have F21_coder : Fld Z h21 b21 "java/lang/String" "coder" "B" (.int 0) := D21 (Or.inr (wd hw 40 rfl)) (ty := .byte) (by decide)
  have F21_value : Fld Z h21 b21 "java/lang/String" "value" "[B" .null := D21 (Or.inr (wd hw 42 rfl)) (ty := (.array .byte)) (by decide)
  have K21 : Keep h0 h21 [] := Keep.ext K17 E21
  have Z21 : n0 ≤ h21.size := Nat.le_trans Z17 E21.1
  refine Goes.by st21 ?_
  refine Goes.by (fun _ kz => XS.dup X21.here hx rfl (hb hby at_153) rfl rfl (XS.iconst X21.here hx rfl (hb hby at_154) kz)) ?_
  have f27 := (f22.ext E21)
  have f28 := (f23.ext E21)
  have f29 := (f24.ext E21)
  have f30 := (f25.ext E21)
  have f31 := (A17.ext E21)
  obtain ⟨T26, h26, k26, X26, e26, E26, A26, st26⟩ := newP X21 hx hZ (wd hw 16 rfl) e21 (g := (mkF m 155 #[lv p1, .second, lv p2, .second, lv p3, .second, lv p4, .second, iv p5, iv p6, rv b1, iv z1, iv z2, iv oi, iv oj, iv ch0, iv ch1, iv ch2, iv zB, iv (p6 &&& (7 : Int32)), iv (((p6.toUInt32 >>> ((4 : Int32) &&& 31).toUInt32).toInt32) &&& (3 : Int32)), .unset, .unset, .unset, .unset, .unset, .unset, .unset, .unset, .unset, .unset, .unset, .unset, .unset, .unset, .unset] [(.int 2), (.ref b21), (.ref b21), (.int z1), (.ref b17), (.ref b17)])) rfl (hb hby at_155) rfl (by decide) (cap := 2) (by decide) (by decide) (by decide) (by decide)
  obtain ⟨b26, g26⟩ : ∃ z, z = h21.size := ⟨_, rfl⟩
  rw [← g26] at A26 st26
  have ne26__w_0_ : (w 0) ≠ b26 := Nat.ne_of_lt (Nat.lt_of_lt_of_le f27.lt (Nat.le_of_eq g26.symm))
  have ne26__w_1_ : (w 1) ≠ b26 := Nat.ne_of_lt (Nat.lt_of_lt_of_le f28.lt (Nat.le_of_eq g26.symm))
  have ne26__w_2_ : (w 2) ≠ b26 := Nat.ne_of_lt (Nat.lt_of_lt_of_le f29.lt (Nat.le_of_eq g26.symm))
  have ne26_b1 : b1 ≠ b26 := Nat.ne_of_lt (Nat.lt_of_lt_of_le f30.lt (Nat.le_of_eq g26.symm))
  have ne26_b17 : b17 ≠ b26 := Nat.ne_of_lt (Nat.lt_of_lt_of_le f31.lt (Nat.le_of_eq g26.symm))
  have ne26_b21 : b21 ≠ b26 := Nat.ne_of_lt (Nat.lt_of_lt_of_le A21.lt (Nat.le_of_eq g26.symm))
  have g_b26 : n0 ≤ b26 := Nat.le_trans Z21 (Nat.le_of_eq g26.symm)
  have sz_b26 : h0.size ≤ b26 := Nat.le_trans K21.1 (Nat.le_of_eq g26.symm)
  have V26 : Arv Z h26 b26 k26 .char (2 : Int32) [(.int 0), (.int 0)] (.int 0) := (Arv.new A26 (by decide)).pad (pad_rep [] (.int 0) 2)
  have K26 : Keep h0 h26 [] := Keep.ext K21 E26
  have Z26 : n0 ≤ h26.size := Nat.le_trans Z21 E26.1
  refine Goes.by st26 ?_
  refine Goes.by (fun _ kz => XS.dup X26.here hx rfl (hb hby at_157) rfl rfl (XS.iconst X26.here hx rfl (hb hby at_158) (XS.iload X26.here hx rfl (hb hby at_159) rfl kz))) ?_
  obtain ⟨cl32, Ar32, Cq32, Sz32, Nn32, Hh32, Gg32⟩ := id V26
  have hin32 : ¬ ((0 : Int32) < 0 ∨ cl32.slots.size ≤ ((0 : Int32)).toNatClampNeg) := inb_of Sz32 ⟨by decide, by decide⟩
  obtain ⟨T32, h32, X32, e32, W32, st32⟩ := stC X26 hx hZ e26 Ar32 (j := (0 : Int32)) hin32 (g := (mkF m 161 #[lv p1, .second, lv p2, .second, lv p3, .second, lv p4, .second, iv p5, iv p6, rv b1, iv z1, iv z2, iv oi, iv oj, iv ch0, iv ch1, iv ch2, iv zB, iv (p6 &&& (7 : Int32)), iv (((p6.toUInt32 >>> ((4 : Int32) &&& 31).toUInt32).toInt32) &&& (3 : Int32)), .unset, .unset, .unset, .unset, .unset, .unset, .unset, .unset, .unset, .unset, .unset, .unset, .unset, .unset, .unset] [(.int ch0), (.int 0), (.ref b26), (.ref b26), (.ref b21), (.ref b21), (.int z1), (.ref b17), (.ref b17)])) rfl rfl (hb hby at_161)
  have V32 : Arv Z h32 b26 k26 .char (2 : Int32) [(.int (nar .char ch0)), (.int 0)] (.int 0) := Arv.set Ar32 Cq32 Sz32 Nn32 Hh32 Gg32 (fits_nar_char _) W32 0 rfl (Nat.le_of_ble_eq_true rfl)
  rw [hn_ch0] at V32
  have K32 : Keep h0 h32 [] := Keep.wr K26 W32 (Or.inr sz_b26)
  have Z32 : n0 ≤ h32.size := Nat.le_trans Z26 (Keep.of_wr W32).1
  have N32 := Fr.snoc X32 N12 g_b26
  refine Goes.by st32 ?_
  refine Goes.by (fun _ kz => XS.dup X32.here hx rfl (hb hby at_162) rfl rfl (XS.iconst X32.here hx rfl (hb hby at_163) (XS.iload X32.here hx rfl (hb hby at_164) rfl kz))) ?_
  obtain ⟨cl33, Ar33, Cq33, Sz33, Nn33, Hh33, Gg33⟩ := id V32
  have hin33 : ¬ ((1 : Int32) < 0 ∨ cl33.slots.size ≤ ((1 : Int32)).toNatClampNeg) := inb_of Sz33 ⟨by decide, by decide⟩
  obtain ⟨T33, h33, X33, e33, W33, st33⟩ := stC X32 hx hZ e32 Ar33 (j := (1 : Int32)) hin33 (g := (mkF m 166 #[lv p1, .second, lv p2, .second, lv p3, .second, lv p4, .second, iv p5, iv p6, rv b1, iv z1, iv z2, iv oi, iv oj, iv ch0, iv ch1, iv ch2, iv zB, iv (p6 &&& (7 : Int32)), iv (((p6.toUInt32 >>> ((4 : Int32) &&& 31).toUInt32).toInt32) &&& (3 : Int32)), .unset, .unset, .unset, .unset, .unset, .unset, .unset, .unset, .unset, .unset, .unset, .unset, .unset, .unset, .unset] [(.int ch1), (.int 1), (.ref b26), (.ref b26), (.ref b21), (.ref b21), (.int z1), (.ref b17), (.ref b17)])) rfl rfl (hb hby at_166)
  have V33 : Arv Z h33 b26 k26 .char (2 : Int32) [(.int ch0), (.int (nar .char ch1))] (.int 0) := Arv.set Ar33 Cq33 Sz33 Nn33 Hh33 Gg33 (fits_nar_char _) W33 1 rfl (Nat.le_of_ble_eq_true rfl)
  rw [hn_ch1] at V33
  have K33 : Keep h0 h33 [] := Keep.wr K32 W33 (Or.inr sz_b26)
  have Z33 : n0 ≤ h33.size := Nat.le_trans Z32 (Keep.of_wr W33).1
  have N33 := Fr.snoc X33 N32 g_b26
  refine Goes.by st33 ?_
  show Goes p e below (T33.setTop (mkF m 167 #[lv p1, .second, lv p2, .second, lv p3, .second, lv p4, .second, iv p5, iv p6, rv b1, iv z1, iv z2, iv oi, iv oj, iv ch0, iv ch1, iv ch2, iv zB, iv (p6 &&& (7 : Int32)), iv (((p6.toUInt32 >>> ((4 : Int32) &&& 31).toUInt32).toInt32) &&& (3 : Int32)), .unset, .unset, .unset, .unset, .unset, .unset, .unset, .unset, .unset, .unset, .unset, .unset, .unset, .unset, .unset] [(.ref b26), (.ref b21), (.ref b21), (.int z1), (.ref b17), (.ref b17)])) _
  have f34 := (Exa.wr W33 (Exa.wr W32 (A21.ext E26)))
  have f35 := (Fld.other W33 (Fld.other W32 (F21_value.ext E26) (Or.inl ne26_b21)) (Or.inl ne26_b21))
  have f36 := (Fld.other W33 (Fld.other W32 (F21_coder.ext E26) (Or.inl ne26_b21)) (Or.inl ne26_b21))
  have f37 := (Sta.wr W33 (Sta.wr W32 ((((Sta.wr W12 (Sta.wr W8 (Sta.wr W4 (Sc.ext E1)))).ext E17).ext E21).ext E26)))
  have f38 := (Exa.wr W33 (Exa.wr W32 (f27.ext E26)))
  have f39 := (Exa.wr W33 (Exa.wr W32 (f28.ext E26)))
  have f40 := (Exa.wr W33 (Exa.wr W32 (f29.ext E26)))
  have f41 := (((f30.ext E26).other W32 ne26_b1).other W33 ne26_b1)
  have f42 := (Exa.wr W33 (Exa.wr W32 (f31.ext E26)))
  have hp43 : ∀ c ∈ ([ch0, ch1] : List Int32), ¬ c < 0 ∧ ¬ (255 : Int32) < c := by
    intro c hc; simp only [List.mem_cons, List.not_mem_nil, or_false] at hc
    rcases hc with hc | hc
    · rw [hc]; exact hb_ch0
    · rw [hc]; exact hb_ch1
  have hcd43 : StrChars.Road.CodA ([ch0, ch1] : List Int32) 0 (2 : Int32) ((([ch0, ch1] : List Int32).map (fun c => c.toInt8.toInt32)).map Value.int) := StrChars.Road.codOf (n := 2) rfl (fun c hc => (hp43 c hc).2)
  have hbd43 := own_up _ hp43
  obtain ⟨_, _, ⟨T44, L44, k44, n44⟩, -, X44, ⟨Lc44, hQ44, l44, y44, z44⟩, st44⟩ := X33.specialBack hx (y := (⟨"java/lang/String", "<init>", "([C)V"⟩ : MethodName)) rfl hown (mvT hZ (wd hw 17 rfl)) (mvT hZ (wd hw 18 rfl)) (mvT hZ (wd hw 19 rfl)) (by decide) (StrChars.Road.backV (W := 4) hZ hws (kI := 4) (wd hw 14 rfl) (cs := ([ch0, ch1] : List Int32)) (bs := (([ch0, ch1] : List Int32).map (fun c => c.toInt8.toInt32))) (n := 2) g_b21 Z33 f34 f35 f36 V33 f37 hzc rfl rfl (by decide) (by decide) hp43 rfl (by decide) (by decide)) (g := (mkF m 167 #[lv p1, .second, lv p2, .second, lv p3, .second, lv p4, .second, iv p5, iv p6, rv b1, iv z1, iv z2, iv oi, iv oj, iv ch0, iv ch1, iv ch2, iv zB, iv (p6 &&& (7 : Int32)), iv (((p6.toUInt32 >>> ((4 : Int32) &&& 31).toUInt32).toInt32) &&& (3 : Int32)), .unset, .unset, .unset, .unset, .unset, .unset, .unset, .unset, .unset, .unset, .unset, .unset, .unset, .unset, .unset] [(.ref b26), (.ref b21), (.ref b21), (.int z1), (.ref b17), (.ref b17)])) rfl (by rw [hml]; rfl) (Steps.refl _) (a := b21) (argsL := [(.ref b26)]) (rest := [(.ref b21), (.int z1), (.ref b17), (.ref b17)]) (lenOf pd0 rfl) rfl (by show 2 * 0 + _ ≤ _; exact Nat.le_of_eq rfl) (hb hby at_167) (fun _ _ => ⟨rfl, e33, (by decide : 4 + 1 ≤ _), (by decide : 16 + 2 ≤ _)⟩)
  dsimp only [Pt.U, Pt.locs, Pt.cells, Pt.slots] at X44 l44 y44 z44 st44 hQ44
  subst l44 y44 z44
  obtain ⟨rfl, Nq44, Kq44, gE44, gC44, t44, kb44, u1_44, u2_44, u3_44, gV44, gA44⟩ := hQ44
  have K44 : Keep h0 T44.heap [] := Keep.trans K33 Kq44 (allS (Or.inr sz_b21) all0)
  have Z44 : n0 ≤ T44.heap.size := Nat.le_trans Z33 Kq44.1
  have net44__w_0_ : (w 0) ≠ t44 := Nat.ne_of_lt (Nat.lt_of_lt_of_le f38.lt u2_44)
  have net44__w_1_ : (w 1) ≠ t44 := Nat.ne_of_lt (Nat.lt_of_lt_of_le f39.lt u2_44)
  have net44__w_2_ : (w 2) ≠ t44 := Nat.ne_of_lt (Nat.lt_of_lt_of_le f40.lt u2_44)
  have net44_b1 : b1 ≠ t44 := Nat.ne_of_lt (Nat.lt_of_lt_of_le f41.lt u2_44)
  have net44_b17 : b17 ≠ t44 := Nat.ne_of_lt (Nat.lt_of_lt_of_le f42.lt u2_44)
  have net44_b21 : b21 ≠ t44 := Nat.ne_of_lt (Nat.lt_of_lt_of_le f34.lt u2_44)
  have net44_b26 : b26 ≠ t44 := Nat.ne_of_lt (Nat.lt_of_lt_of_le V33.lt u2_44)
  have g_t44 : n0 ≤ t44 := Nat.le_trans Z33 u2_44
  have sz_t44 : h0.size ≤ t44 := Nat.le_trans K33.1 u2_44
  have N44 := Fr.app N33 Nq44
  refine Goes.tr st44 ?_
  refine Goes.by (fun _ kz => XS.lloadN X44.here hx rfl (hb hby at_170) rfl (XS.lloadN X44.here hx rfl (hb hby at_171) rfl (XS.lload X44.here hx rfl (hb hby at_172) rfl kz))) ?_
  show Goes p e below (T44.setTop (mkF m 174 #[lv p1, .second, lv p2, .second, lv p3, .second, lv p4, .second, iv p5, iv p6, rv b1, iv z1, iv z2, iv oi, iv oj, iv ch0, iv ch1, iv ch2, iv zB, iv (p6 &&& (7 : Int32)), iv (((p6.toUInt32 >>> ((4 : Int32) &&& 31).toUInt32).toInt32) &&& (3 : Int32)), .unset, .unset, .unset, .unset, .unset, .unset, .unset, .unset, .unset, .unset, .unset, .unset, .unset, .unset, .unset] [(.long p3), (.long p2), (.long p1), (.ref b21), (.int z1), (.ref b17), (.ref b17)])) _
  refine Goes.by (fun _ kz => XS.lload X44.here hx rfl (hb hby at_174) rfl (XS.aload X44.here hx rfl (hb hby at_176) rfl rfl (XS.iload X44.here hx rfl (hb hby at_178) rfl kz))) ?_
  show Goes p e below (T44.setTop (mkF m 180 #[lv p1, .second, lv p2, .second, lv p3, .second, lv p4, .second, iv p5, iv p6, rv b1, iv z1, iv z2, iv oi, iv oj, iv ch0, iv ch1, iv ch2, iv zB, iv (p6 &&& (7 : Int32)), iv (((p6.toUInt32 >>> ((4 : Int32) &&& 31).toUInt32).toInt32) &&& (3 : Int32)), .unset, .unset, .unset, .unset, .unset, .unset, .unset, .unset, .unset, .unset, .unset, .unset, .unset, .unset, .unset] [(.int oi), (.ref b1), (.long p4), (.long p3), (.long p2), (.long p1), (.ref b21), (.int z1), (.ref b17), (.ref b17)])) _
  have f46 := (f41.keep Kq44 (ninS ne21_b1 nin0))
  obtain ⟨cl45, Ar45, Cq45, Sz45, Nn45, Hh45, Gg45⟩ := id f46
  have hin45 : ¬ (oi < 0 ∨ cl45.slots.size ≤ (oi).toNatClampNeg) := inb_of Sz45 (own_i3 h_oi)
  have hat45 : cl45.slots[(oi).toNatClampNeg]? = some (.ref (own_o w oi)) := Has.at Hh45 hin45 (by rcases h_oi with h | h | h <;> rw [h] <;> rfl)
  refine Goes.by (fun _ kz => X44.aaload hx (j := oi) (v := (.ref (own_o w oi))) Ar45.1 (State.isArrayOf_alike hZ.alike Ar45.2.1) rfl Ar45.2.2 hin45 hat45 (g := (mkF m 180 #[lv p1, .second, lv p2, .second, lv p3, .second, lv p4, .second, iv p5, iv p6, rv b1, iv z1, iv z2, iv oi, iv oj, iv ch0, iv ch1, iv ch2, iv zB, iv (p6 &&& (7 : Int32)), iv (((p6.toUInt32 >>> ((4 : Int32) &&& 31).toUInt32).toInt32) &&& (3 : Int32)), .unset, .unset, .unset, .unset, .unset, .unset, .unset, .unset, .unset, .unset, .unset, .unset, .unset, .unset, .unset] [(.int oi), (.ref b1), (.long p4), (.long p3), (.long p2), (.long p1), (.ref b21), (.int z1), (.ref b17), (.ref b17)])) rfl rfl (hb hby at_180) _ kz) ?_
  have f73 := (f42.keep Kq44)
  have f74 := ((Fld.other W33 (Fld.other W32 ((F17_visible.ext E21).ext E26) (Or.inl ne26_b17)) (Or.inl ne26_b17)).keep Kq44 (ninS ne21_b17 nin0))
  have f75 := ((Fld.other W33 (Fld.other W32 ((F17_appearance.ext E21).ext E26) (Or.inl ne26_b17)) (Or.inl ne26_b17)).keep Kq44 (ninS ne21_b17 nin0))
  have f76 := ((Fld.other W33 (Fld.other W32 ((F17_x.ext E21).ext E26) (Or.inl ne26_b17)) (Or.inl ne26_b17)).keep Kq44 (ninS ne21_b17 nin0))
  have f77 := ((Fld.other W33 (Fld.other W32 ((F17_y.ext E21).ext E26) (Or.inl ne26_b17)) (Or.inl ne26_b17)).keep Kq44 (ninS ne21_b17 nin0))
  have f78 := ((Fld.other W33 (Fld.other W32 ((F17_width.ext E21).ext E26) (Or.inl ne26_b17)) (Or.inl ne26_b17)).keep Kq44 (ninS ne21_b17 nin0))
  have f79 := ((Fld.other W33 (Fld.other W32 ((F17_height.ext E21).ext E26) (Or.inl ne26_b17)) (Or.inl ne26_b17)).keep Kq44 (ninS ne21_b17 nin0))
  have f80 := ((Fld.other W33 (Fld.other W32 ((F17_obscured.ext E21).ext E26) (Or.inl ne26_b17)) (Or.inl ne26_b17)).keep Kq44 (ninS ne21_b17 nin0))
  obtain ⟨_, _, ⟨T81, L81, k81, n81⟩, -, X81, ⟨Lc81, hQ81, l81, y81, z81⟩, st81⟩ := X44.specialBack hx (y := (⟨"com/example/killdeer/killdeer/GadgetView", "<init>", "(ZLjava/lang/String;JJJJLcom/example/killdeer/killdeer/GadgetView$Obscured;)V"⟩ : MethodName)) rfl hown (mvT hZ (wd hw 43 rfl)) (mvT hZ (wd hw 44 rfl)) (mvT hZ (wd hw 45 rfl)) (by decide) (backOf (W := 1) (r7_0 l Z a0 hw [] T44.heap n0 Z44 b17 z1 b21 p1 p2 p3 p4 (own_o w oi) f73 f74 f75 f76 f77 f78 f79 f80 g_b17) hZ (wd hw 45 rfl) (wd hw 12 rfl) (by decide) (by decide)) (g := (mkF m 181 #[lv p1, .second, lv p2, .second, lv p3, .second, lv p4, .second, iv p5, iv p6, rv b1, iv z1, iv z2, iv oi, iv oj, iv ch0, iv ch1, iv ch2, iv zB, iv (p6 &&& (7 : Int32)), iv (((p6.toUInt32 >>> ((4 : Int32) &&& 31).toUInt32).toInt32) &&& (3 : Int32)), .unset, .unset, .unset, .unset, .unset, .unset, .unset, .unset, .unset, .unset, .unset, .unset, .unset, .unset, .unset] [(.ref (own_o w oi)), (.long p4), (.long p3), (.long p2), (.long p1), (.ref b21), (.int z1), (.ref b17), (.ref b17)])) rfl (by rw [hml]; rfl) (Steps.refl _) (a := b17) (argsL := [(.int z1), (.ref b21), (.long p1), (.long p2), (.long p3), (.long p4), (.ref (own_o w oi))]) (rest := [(.ref b17)]) (lenOf pd1 rfl) rfl (by show 2 * 0 + _ ≤ _; exact Nat.le_of_eq rfl) (hb hby at_181) (fun _ _ => ⟨rfl, rfl, (by decide : 5 + 0 ≤ _), (by decide : 18 + 0 ≤ _)⟩)
  dsimp only [Pt.U, Pt.locs, Pt.cells, Pt.slots] at X81 l81 y81 z81 st81 hQ81
  subst l81 y81 z81
  obtain ⟨rfl, Nq81, Kq81, fq81_0, fq81_1, fq81_2, fq81_3, fq81_4, fq81_5, fq81_6⟩ := hQ81
  have K81 : Keep h0 T81.heap [] := Keep.trans K44 Kq81 (allS (Or.inr sz_b17) all0)
  have Z81 : n0 ≤ T81.heap.size := Nat.le_trans Z44 Kq81.1
  have N81 := Fr.app N44 Nq81
  refine Goes.tr st81 ?_
  refine Goes.by (fun _ kz => XS.astore X81.here hx rfl (hb hby at_184) rfl rfl rfl kz) ?_
  show Goes p e below (T81.setTop (mkF m 186 #[lv p1, .second, lv p2, .second, lv p3, .second, lv p4, .second, iv p5, iv p6, rv b1, iv z1, iv z2, iv oi, iv oj, iv ch0, iv ch1, iv ch2, iv zB, iv (p6 &&& (7 : Int32)), iv (((p6.toUInt32 >>> ((4 : Int32) &&& 31).toUInt32).toInt32) &&& (3 : Int32)), rv b17, .unset, .unset, .unset, .unset, .unset, .unset, .unset, .unset, .unset, .unset, .unset, .unset, .unset, .unset] [])) _
  have hsmd := own_m p6
  obtain ⟨md, hmd⟩ : ∃ z, z = (p6 &&& (7 : Int32)) := ⟨_, rfl⟩
  rw [← hmd] at hsmd ⊢
  rcases hsmd with rfl | rfl | rfl | rfl | rfl | rfl | rfl | rfl
  · show Goes p e below (T81.setTop (mkF m 186 #[lv p1, .second, lv p2, .second, lv p3, .second, lv p4, .second, iv p5, iv p6, rv b1, iv z1, iv z2, iv oi, iv oj, iv ch0, iv ch1, iv ch2, iv zB, iv 0, iv (((p6.toUInt32 >>> ((4 : Int32) &&& 31).toUInt32).toInt32) &&& (3 : Int32)), rv b17, .unset, .unset, .unset, .unset, .unset, .unset, .unset, .unset, .unset, .unset, .unset, .unset, .unset, .unset] [])) _
    refine Goes.by (fun _ kz => XS.iload X81.here hx rfl (hb hby at_186) rfl (XS.iconst X81.here hx rfl (hb hby at_188) (XS.icmpYes X81.here hx rfl (pc0 := 189) (pc' := 197) rfl (hb hby at_189) rfl (feq (by decide : ¬ ((0 : Int32) = (1 : Int32)))).2 (by decide) (by decide) kz))) ?_
    show Goes p e below (T81.setTop (mkF m 197 #[lv p1, .second, lv p2, .second, lv p3, .second, lv p4, .second, iv p5, iv p6, rv b1, iv z1, iv z2, iv oi, iv oj, iv ch0, iv ch1, iv ch2, iv zB, iv 0, iv (((p6.toUInt32 >>> ((4 : Int32) &&& 31).toUInt32).toInt32) &&& (3 : Int32)), rv b17, .unset, .unset, .unset, .unset, .unset, .unset, .unset, .unset, .unset, .unset, .unset, .unset, .unset, .unset] [])) _
    refine Goes.by (fun _ kz => XS.iload X81.here hx rfl (hb hby at_197) rfl (XS.istore X81.here hx rfl (hb hby at_199) rfl rfl (XS.iload X81.here hx rfl (hb hby at_201) rfl kz))) ?_
    show Goes p e below (T81.setTop (mkF m 203 #[lv p1, .second, lv p2, .second, lv p3, .second, lv p4, .second, iv p5, iv p6, rv b1, iv z1, iv z2, iv oi, iv oj, iv ch0, iv ch1, iv ch2, iv zB, iv 0, iv (((p6.toUInt32 >>> ((4 : Int32) &&& 31).toUInt32).toInt32) &&& (3 : Int32)), rv b17, iv z1, .unset, .unset, .unset, .unset, .unset, .unset, .unset, .unset, .unset, .unset, .unset, .unset, .unset] [(.int 0)])) _
    refine Goes.by (fun _ kz => XS.iconst X81.here hx rfl (hb hby at_203) (XS.icmpYes X81.here hx rfl (pc0 := 204) (pc' := 243) rfl (hb hby at_204) rfl (feq (by decide : ¬ ((0 : Int32) = (2 : Int32)))).2 (by decide) (by decide) (XS.iconst X81.here hx rfl (hb hby at_243) kz))) ?_
    have f83 := ((f38.keep Kq44).keep Kq81)
    have f84 := ((f39.keep Kq44).keep Kq81)
    have f85 := ((f40.keep Kq44).keep Kq81)
    have f86 := (f46.keep Kq81 (ninS ne17_b1 nin0))
    have f87 := (f73.keep Kq81)
    have f88 := ((f34.keep Kq44).keep Kq81)
    have f89 := ((V33.keep Kq44 (ninS (Ne.symm ne26_b21) nin0)).keep Kq81 (ninS (Ne.symm ne26_b17) nin0))
    have f90 := (gA44.keep Kq81 (ninS (Ne.symm net44_b17) nin0))
    obtain ⟨T82, h82, k82, X82, e82, E82, A82, st82⟩ := newP X81 hx hZ (wd hw 16 rfl) rfl (g := (mkF m 244 #[lv p1, .second, lv p2, .second, lv p3, .second, lv p4, .second, iv p5, iv p6, rv b1, iv z1, iv z2, iv oi, iv oj, iv ch0, iv ch1, iv ch2, iv zB, iv 0, iv (((p6.toUInt32 >>> ((4 : Int32) &&& 31).toUInt32).toInt32) &&& (3 : Int32)), rv b17, iv z1, .unset, .unset, .unset, .unset, .unset, .unset, .unset, .unset, .unset, .unset, .unset, .unset, .unset] [(.int 2)])) rfl (hb hby at_244) rfl (by decide) (cap := 2) (by decide) (by decide) (by decide) (by decide)
    obtain ⟨b82, g82⟩ : ∃ z, z = T81.heap.size := ⟨_, rfl⟩
    rw [← g82] at A82 st82
    have ne82__w_0_ : (w 0) ≠ b82 := Nat.ne_of_lt (Nat.lt_of_lt_of_le f83.lt (Nat.le_of_eq g82.symm))
    have ne82__w_1_ : (w 1) ≠ b82 := Nat.ne_of_lt (Nat.lt_of_lt_of_le f84.lt (Nat.le_of_eq g82.symm))
    have ne82__w_2_ : (w 2) ≠ b82 := Nat.ne_of_lt (Nat.lt_of_lt_of_le f85.lt (Nat.le_of_eq g82.symm))
    have ne82_b1 : b1 ≠ b82 := Nat.ne_of_lt (Nat.lt_of_lt_of_le f86.lt (Nat.le_of_eq g82.symm))
    have ne82_b17 : b17 ≠ b82 := Nat.ne_of_lt (Nat.lt_of_lt_of_le f87.lt (Nat.le_of_eq g82.symm))
    have ne82_b21 : b21 ≠ b82 := Nat.ne_of_lt (Nat.lt_of_lt_of_le f88.lt (Nat.le_of_eq g82.symm))
    have ne82_b26 : b26 ≠ b82 := Nat.ne_of_lt (Nat.lt_of_lt_of_le f89.lt (Nat.le_of_eq g82.symm))
    have ne82_t44 : t44 ≠ b82 := Nat.ne_of_lt (Nat.lt_of_lt_of_le f90.lt (Nat.le_of_eq g82.symm))
    have g_b82 : n0 ≤ b82 := Nat.le_trans Z81 (Nat.le_of_eq g82.symm)
    have sz_b82 : h0.size ≤ b82 := Nat.le_trans K81.1 (Nat.le_of_eq g82.symm)
    have V82 : Arv Z h82 b82 k82 .char (2 : Int32) [(.int 0), (.int 0)] (.int 0) := (Arv.new A82 (by decide)).pad (pad_rep [] (.int 0) 2)
    have K82 : Keep h0 h82 [] := Keep.ext K81 E82
    have Z82 : n0 ≤ h82.size := Nat.le_trans Z81 E82.1
    refine Goes.by st82 ?_
    refine Goes.by (fun _ kz => XS.dup X82.here hx rfl (hb hby at_246) rfl rfl (XS.iconst X82.here hx rfl (hb hby at_247) (XS.iload X82.here hx rfl (hb hby at_248) rfl kz))) ?_
    obtain ⟨cl91, Ar91, Cq91, Sz91, Nn91, Hh91, Gg91⟩ := id V82
    have hin91 : ¬ ((0 : Int32) < 0 ∨ cl91.slots.size ≤ ((0 : Int32)).toNatClampNeg) := inb_of Sz91 ⟨by decide, by decide⟩
    obtain ⟨T91, h91, X91, e91, W91, st91⟩ := stC X82 hx hZ e82 Ar91 (j := (0 : Int32)) hin91 (g := (mkF m 250 #[lv p1, .second, lv p2, .second, lv p3, .second, lv p4, .second, iv p5, iv p6, rv b1, iv z1, iv z2, iv oi, iv oj, iv ch0, iv ch1, iv ch2, iv zB, iv 0, iv (((p6.toUInt32 >>> ((4 : Int32) &&& 31).toUInt32).toInt32) &&& (3 : Int32)), rv b17, iv z1, .unset, .unset, .unset, .unset, .unset, .unset, .unset, .unset, .unset, .unset, .unset, .unset, .unset] [(.int ch0), (.int 0), (.ref b82), (.ref b82)])) rfl rfl (hb hby at_250)
    have V91 : Arv Z h91 b82 k82 .char (2 : Int32) [(.int (nar .char ch0)), (.int 0)] (.int 0) := Arv.set Ar91 Cq91 Sz91 Nn91 Hh91 Gg91 (fits_nar_char _) W91 0 rfl (Nat.le_of_ble_eq_true rfl)
    rw [hn_ch0] at V91
    have K91 : Keep h0 h91 [] := Keep.wr K82 W91 (Or.inr sz_b82)
    have Z91 : n0 ≤ h91.size := Nat.le_trans Z82 (Keep.of_wr W91).1
    have N91 := Fr.snoc X91 N81 g_b82
    refine Goes.by st91 ?_
    refine Goes.by (fun _ kz => XS.dup X91.here hx rfl (hb hby at_251) rfl rfl (XS.iconst X91.here hx rfl (hb hby at_252) (XS.iload X91.here hx rfl (hb hby at_253) rfl kz))) ?_
    obtain ⟨cl92, Ar92, Cq92, Sz92, Nn92, Hh92, Gg92⟩ := id V91
    have hin92 : ¬ ((1 : Int32) < 0 ∨ cl92.slots.size ≤ ((1 : Int32)).toNatClampNeg) := inb_of Sz92 ⟨by decide, by decide⟩
    obtain ⟨T92, h92, X92, e92, W92, st92⟩ := stC X91 hx hZ e91 Ar92 (j := (1 : Int32)) hin92 (g := (mkF m 255 #[lv p1, .second, lv p2, .second, lv p3, .second, lv p4, .second, iv p5, iv p6, rv b1, iv z1, iv z2, iv oi, iv oj, iv ch0, iv ch1, iv ch2, iv zB, iv 0, iv (((p6.toUInt32 >>> ((4 : Int32) &&& 31).toUInt32).toInt32) &&& (3 : Int32)), rv b17, iv z1, .unset, .unset, .unset, .unset, .unset, .unset, .unset, .unset, .unset, .unset, .unset, .unset, .unset] [(.int ch1), (.int 1), (.ref b82), (.ref b82)])) rfl rfl (hb hby at_255)
    have V92 : Arv Z h92 b82 k82 .char (2 : Int32) [(.int ch0), (.int (nar .char ch1))] (.int 0) := Arv.set Ar92 Cq92 Sz92 Nn92 Hh92 Gg92 (fits_nar_char _) W92 1 rfl (Nat.le_of_ble_eq_true rfl)
    rw [hn_ch1] at V92
    have K92 : Keep h0 h92 [] := Keep.wr K91 W92 (Or.inr sz_b82)
    have Z92 : n0 ≤ h92.size := Nat.le_trans Z91 (Keep.of_wr W92).1
    have N92 := Fr.snoc X92 N91 g_b82
    refine Goes.by st92 ?_
    refine Goes.by (fun _ kz => XS.astore X92.here hx rfl (hb hby at_256) rfl rfl rfl (XS.iload X92.here hx rfl (hb hby at_258) rfl (XS.iconst X92.here hx rfl (hb hby at_260) kz))) ?_
    show Goes p e below (T92.setTop (mkF m 261 #[lv p1, .second, lv p2, .second, lv p3, .second, lv p4, .second, iv p5, iv p6, rv b1, iv z1, iv z2, iv oi, iv oj, iv ch0, iv ch1, iv ch2, iv zB, iv 0, iv (((p6.toUInt32 >>> ((4 : Int32) &&& 31).toUInt32).toInt32) &&& (3 : Int32)), rv b17, iv z1, rv b82, .unset, .unset, .unset, .unset, .unset, .unset, .unset, .unset, .unset, .unset, .unset, .unset] [(.int 3), (.int 0)])) _
    refine Goes.by (fun _ kz => XS.icmpYes X92.here hx rfl (pc0 := 261) (pc' := 269) rfl (hb hby at_261) rfl (feq (by decide : ¬ ((0 : Int32) = (3 : Int32)))).2 (by decide) (by decide) (XS.lloadN X92.here hx rfl (hb hby at_269) rfl (XS.lstore X92.here hx rfl (hb hby at_270) rfl rfl kz))) ?_
    show Goes p e below (T92.setTop (mkF m 272 #[lv p1, .second, lv p2, .second, lv p3, .second, lv p4, .second, iv p5, iv p6, rv b1, iv z1, iv z2, iv oi, iv oj, iv ch0, iv ch1, iv ch2, iv zB, iv 0, iv (((p6.toUInt32 >>> ((4 : Int32) &&& 31).toUInt32).toInt32) &&& (3 : Int32)), rv b17, iv z1, rv b82, lv p1, .second, .unset, .unset, .unset, .unset, .unset, .unset, .unset, .unset, .unset, .unset] [])) _
    refine Goes.by (fun _ kz => XS.iload X92.here hx rfl (hb hby at_272) rfl (XS.iconst X92.here hx rfl (hb hby at_274) (XS.icmpYes X92.here hx rfl (pc0 := 275) (pc' := 283) rfl (hb hby at_275) rfl (feq (by decide : ¬ ((0 : Int32) = (4 : Int32)))).2 (by decide) (by decide) kz))) ?_
    show Goes p e below (T92.setTop (mkF m 283 #[lv p1, .second, lv p2, .second, lv p3, .second, lv p4, .second, iv p5, iv p6, rv b1, iv z1, iv z2, iv oi, iv oj, iv ch0, iv ch1, iv ch2, iv zB, iv 0, iv (((p6.toUInt32 >>> ((4 : Int32) &&& 31).toUInt32).toInt32) &&& (3 : Int32)), rv b17, iv z1, rv b82, lv p1, .second, .unset, .unset, .unset, .unset, .unset, .unset, .unset, .unset, .unset, .unset] [])) _
    refine Goes.by (fun _ kz => XS.lloadN X92.here hx rfl (hb hby at_283) rfl (XS.lstore X92.here hx rfl (hb hby at_284) rfl rfl (XS.iload X92.here hx rfl (hb hby at_286) rfl kz))) ?_
    show Goes p e below (T92.setTop (mkF m 288 #[lv p1, .second, lv p2, .second, lv p3, .second, lv p4, .second, iv p5, iv p6, rv b1, iv z1, iv z2, iv oi, iv oj, iv ch0, iv ch1, iv ch2, iv zB, iv 0, iv (((p6.toUInt32 >>> ((4 : Int32) &&& 31).toUInt32).toInt32) &&& (3 : Int32)), rv b17, iv z1, rv b82, lv p1, .second, lv p2, .second, .unset, .unset, .unset, .unset, .unset, .unset, .unset, .unset] [(.int 0)])) _
    refine Goes.by (fun _ kz => XS.iconst X92.here hx rfl (hb hby at_288) (XS.icmpYes X92.here hx rfl (pc0 := 289) (pc' := 297) rfl (hb hby at_289) rfl (feq (by decide : ¬ ((0 : Int32) = (5 : Int32)))).2 (by decide) (by decide) (XS.lload X92.here hx rfl (hb hby at_297) rfl kz))) ?_
    show Goes p e below (T92.setTop (mkF m 299 #[lv p1, .second, lv p2, .second, lv p3, .second, lv p4, .second, iv p5, iv p6, rv b1, iv z1, iv z2, iv oi, iv oj, iv ch0, iv ch1, iv ch2, iv zB, iv 0, iv (((p6.toUInt32 >>> ((4 : Int32) &&& 31).toUInt32).toInt32) &&& (3 : Int32)), rv b17, iv z1, rv b82, lv p1, .second, lv p2, .second, .unset, .unset, .unset, .unset, .unset, .unset, .unset, .unset] [(.long p3)])) _
    refine Goes.by (fun _ kz => XS.lstore X92.here hx rfl (hb hby at_299) rfl rfl (XS.iload X92.here hx rfl (hb hby at_301) rfl (XS.bipush X92.here hx rfl (hb hby at_303) kz))) ?_
    show Goes p e below (T92.setTop (mkF m 305 #[lv p1, .second, lv p2, .second, lv p3, .second, lv p4, .second, iv p5, iv p6, rv b1, iv z1, iv z2, iv oi, iv oj, iv ch0, iv ch1, iv ch2, iv zB, iv 0, iv (((p6.toUInt32 >>> ((4 : Int32) &&& 31).toUInt32).toInt32) &&& (3 : Int32)), rv b17, iv z1, rv b82, lv p1, .second, lv p2, .second, lv p3, .second, .unset, .unset, .unset, .unset, .unset, .unset] [(.int 6), (.int 0)])) _
    refine Goes.by (fun _ kz => XS.icmpYes X92.here hx rfl (pc0 := 305) (pc' := 312) rfl (hb hby at_305) rfl (feq (by decide : ¬ ((0 : Int32) = (6 : Int32)))).2 (by decide) (by decide) (XS.lload X92.here hx rfl (hb hby at_312) rfl (XS.lstore X92.here hx rfl (hb hby at_314) rfl rfl kz))) ?_
    show Goes p e below (T92.setTop (mkF m 316 #[lv p1, .second, lv p2, .second, lv p3, .second, lv p4, .second, iv p5, iv p6, rv b1, iv z1, iv z2, iv oi, iv oj, iv ch0, iv ch1, iv ch2, iv zB, iv 0, iv (((p6.toUInt32 >>> ((4 : Int32) &&& 31).toUInt32).toInt32) &&& (3 : Int32)), rv b17, iv z1, rv b82, lv p1, .second, lv p2, .second, lv p3, .second, lv p4, .second, .unset, .unset, .unset, .unset] [])) _
    refine Goes.by (fun _ kz => XS.iload X92.here hx rfl (hb hby at_316) rfl (XS.bipush X92.here hx rfl (hb hby at_318) (XS.icmpYes X92.here hx rfl (pc0 := 320) (pc' := 331) rfl (hb hby at_320) rfl (feq (by decide : ¬ ((0 : Int32) = (7 : Int32)))).2 (by decide) (by decide) kz))) ?_
    show Goes p e below (T92.setTop (mkF m 331 #[lv p1, .second, lv p2, .second, lv p3, .second, lv p4, .second, iv p5, iv p6, rv b1, iv z1, iv z2, iv oi, iv oj, iv ch0, iv ch1, iv ch2, iv zB, iv 0, iv (((p6.toUInt32 >>> ((4 : Int32) &&& 31).toUInt32).toInt32) &&& (3 : Int32)), rv b17, iv z1, rv b82, lv p1, .second, lv p2, .second, lv p3, .second, lv p4, .second, .unset, .unset, .unset, .unset] [])) _
    refine Goes.by (fun _ kz => XS.aload X92.here hx rfl (hb hby at_331) rfl rfl (XS.iload X92.here hx rfl (hb hby at_333) rfl kz)) ?_
    show Goes p e below (T92.setTop (mkF m 335 #[lv p1, .second, lv p2, .second, lv p3, .second, lv p4, .second, iv p5, iv p6, rv b1, iv z1, iv z2, iv oi, iv oj, iv ch0, iv ch1, iv ch2, iv zB, iv 0, iv (((p6.toUInt32 >>> ((4 : Int32) &&& 31).toUInt32).toInt32) &&& (3 : Int32)), rv b17, iv z1, rv b82, lv p1, .second, lv p2, .second, lv p3, .second, lv p4, .second, .unset, .unset, .unset, .unset] [(.int oi), (.ref b1)])) _
    have f94 := (((f86.ext E82).other W91 ne82_b1).other W92 ne82_b1)
    obtain ⟨cl93, Ar93, Cq93, Sz93, Nn93, Hh93, Gg93⟩ := id f94
    have hin93 : ¬ (oi < 0 ∨ cl93.slots.size ≤ (oi).toNatClampNeg) := inb_of Sz93 (own_i3 h_oi)
    have hat93 : cl93.slots[(oi).toNatClampNeg]? = some (.ref (own_o w oi)) := Has.at Hh93 hin93 (by rcases h_oi with h | h | h <;> rw [h] <;> rfl)
    refine Goes.by (fun _ kz => X92.aaload hx (j := oi) (v := (.ref (own_o w oi))) (by rw [e92]; exact Ar93.1) (State.isArrayOf_alike hZ.alike Ar93.2.1) rfl Ar93.2.2 hin93 hat93 (g := (mkF m 335 #[lv p1, .second, lv p2, .second, lv p3, .second, lv p4, .second, iv p5, iv p6, rv b1, iv z1, iv z2, iv oi, iv oj, iv ch0, iv ch1, iv ch2, iv zB, iv 0, iv (((p6.toUInt32 >>> ((4 : Int32) &&& 31).toUInt32).toInt32) &&& (3 : Int32)), rv b17, iv z1, rv b82, lv p1, .second, lv p2, .second, lv p3, .second, lv p4, .second, .unset, .unset, .unset, .unset] [(.int oi), (.ref b1)])) rfl rfl (hb hby at_335) _ (XS.astore X92.here hx rfl (hb hby at_336) rfl rfl rfl kz)) ?_
    have f96 := (Exa.wr W92 (Exa.wr W91 (f83.ext E82)))
    have f97 := (Exa.wr W92 (Exa.wr W91 (f84.ext E82)))
    have f98 := (Exa.wr W92 (Exa.wr W91 (f85.ext E82)))
    have f99 := (Exa.wr W92 (Exa.wr W91 (f87.ext E82)))
    have f100 := (Exa.wr W92 (Exa.wr W91 (f88.ext E82)))
    have f101 := (((f89.ext E82).other W91 ne82_b26).other W92 ne82_b26)
    have f102 := (((f90.ext E82).other W91 ne82_t44).other W92 ne82_t44)
    obtain ⟨T95, h95, X95, e95, E95, A95, D95, -, st95⟩ := newO X92 hx hZ hown (wd hw 10 rfl) (wd hw 11 rfl) (wd hw 12 rfl) e92 (g := (mkF m 338 #[lv p1, .second, lv p2, .second, lv p3, .second, lv p4, .second, iv p5, iv p6, rv b1, iv z1, iv z2, iv oi, iv oj, iv ch0, iv ch1, iv ch2, iv zB, iv 0, iv (((p6.toUInt32 >>> ((4 : Int32) &&& 31).toUInt32).toInt32) &&& (3 : Int32)), rv b17, iv z1, rv b82, lv p1, .second, lv p2, .second, lv p3, .second, lv p4, .second, rv (own_o w oi), .unset, .unset, .unset] [])) rfl (hb hby at_338) (by decide) (by decide)
    obtain ⟨b95, g95⟩ : ∃ z, z = h92.size := ⟨_, rfl⟩
    rw [← g95] at A95 D95 st95
    have ne95__w_0_ : (w 0) ≠ b95 := Nat.ne_of_lt (Nat.lt_of_lt_of_le f96.lt (Nat.le_of_eq g95.symm))
    have ne95__w_1_ : (w 1) ≠ b95 := Nat.ne_of_lt (Nat.lt_of_lt_of_le f97.lt (Nat.le_of_eq g95.symm))
    have ne95__w_2_ : (w 2) ≠ b95 := Nat.ne_of_lt (Nat.lt_of_lt_of_le f98.lt (Nat.le_of_eq g95.symm))
    have ne95_b1 : b1 ≠ b95 := Nat.ne_of_lt (Nat.lt_of_lt_of_le f94.lt (Nat.le_of_eq g95.symm))
    have ne95_b17 : b17 ≠ b95 := Nat.ne_of_lt (Nat.lt_of_lt_of_le f99.lt (Nat.le_of_eq g95.symm))
    have ne95_b21 : b21 ≠ b95 := Nat.ne_of_lt (Nat.lt_of_lt_of_le f100.lt (Nat.le_of_eq g95.symm))
    have ne95_b26 : b26 ≠ b95 := Nat.ne_of_lt (Nat.lt_of_lt_of_le f101.lt (Nat.le_of_eq g95.symm))
    have ne95_t44 : t44 ≠ b95 := Nat.ne_of_lt (Nat.lt_of_lt_of_le f102.lt (Nat.le_of_eq g95.symm))
    have ne95_b82 : b82 ≠ b95 := Nat.ne_of_lt (Nat.lt_of_lt_of_le V92.lt (Nat.le_of_eq g95.symm))
    have g_b95 : n0 ≤ b95 := Nat.le_trans Z92 (Nat.le_of_eq g95.symm)
    have sz_b95 : h0.size ≤ b95 := Nat.le_trans K92.1 (Nat.le_of_eq g95.symm)
    have F95_visible : Fld Z h95 b95 "com/example/killdeer/killdeer/GadgetView" "visible" "Z" (.int 0) := D95 (Or.inr (wd hw 48 rfl)) (ty := .boolean) (by decide)
    have F95_appearance : Fld Z h95 b95 "com/example/killdeer/killdeer/GadgetView" "appearance" "Ljava/lang/String;" .null := D95 (Or.inr (wd hw 50 rfl)) (ty := (.object "java/lang/String")) (by decide)
    have F95_x : Fld Z h95 b95 "com/example/killdeer/killdeer/GadgetView" "x" "J" (.long 0) := D95 (Or.inr (wd hw 52 rfl)) (ty := .long) (by decide)
    have F95_y : Fld Z h95 b95 "com/example/killdeer/killdeer/GadgetView" "y" "J" (.long 0) := D95 (Or.inr (wd hw 54 rfl)) (ty := .long) (by decide)
    have F95_width : Fld Z h95 b95 "com/example/killdeer/killdeer/GadgetView" "width" "J" (.long 0) := D95 (Or.inr (wd hw 56 rfl)) (ty := .long) (by decide)
    have F95_height : Fld Z h95 b95 "com/example/killdeer/killdeer/GadgetView" "height" "J" (.long 0) := D95 (Or.inr (wd hw 58 rfl)) (ty := .long) (by decide)
    have F95_obscured : Fld Z h95 b95 "com/example/killdeer/killdeer/GadgetView" "obscured" "Lcom/example/killdeer/killdeer/GadgetView$Obscured;" .null := D95 (Or.inr (wd hw 60 rfl)) (ty := (.object "com/example/killdeer/killdeer/GadgetView$Obscured")) (by decide)
    have K95 : Keep h0 h95 [] := Keep.ext K92 E95
    have Z95 : n0 ≤ h95.size := Nat.le_trans Z92 E95.1
    refine Goes.by st95 ?_
    refine Goes.by (fun _ kz => XS.dup X95.here hx rfl (hb hby at_341) rfl rfl (XS.iload X95.here hx rfl (hb hby at_342) rfl kz)) ?_
    have f104 := (f96.ext E95)
    have f105 := (f97.ext E95)
    have f106 := (f98.ext E95)
    have f107 := (f94.ext E95)
    have f108 := (f99.ext E95)
    have f109 := (f100.ext E95)
    have f110 := (f101.ext E95)
    have f111 := (f102.ext E95)
    have f112 := (V92.ext E95)
    obtain ⟨T103, h103, X103, e103, E103, A103, D103, -, st103⟩ := newO X95 hx hZ hown (wd hw 13 rfl) (wd hw 14 rfl) (wd hw 15 rfl) e95 (g := (mkF m 344 #[lv p1, .second, lv p2, .second, lv p3, .second, lv p4, .second, iv p5, iv p6, rv b1, iv z1, iv z2, iv oi, iv oj, iv ch0, iv ch1, iv ch2, iv zB, iv 0, iv (((p6.toUInt32 >>> ((4 : Int32) &&& 31).toUInt32).toInt32) &&& (3 : Int32)), rv b17, iv z1, rv b82, lv p1, .second, lv p2, .second, lv p3, .second, lv p4, .second, rv (own_o w oi), .unset, .unset, .unset] [(.int z1), (.ref b95), (.ref b95)])) rfl (hb hby at_344) (by decide) (by decide)
    obtain ⟨b103, g103⟩ : ∃ z, z = h95.size := ⟨_, rfl⟩
    rw [← g103] at A103 D103 st103
    have ne103__w_0_ : (w 0) ≠ b103 := Nat.ne_of_lt (Nat.lt_of_lt_of_le f104.lt (Nat.le_of_eq g103.symm))
    have ne103__w_1_ : (w 1) ≠ b103 := Nat.ne_of_lt (Nat.lt_of_lt_of_le f105.lt (Nat.le_of_eq g103.symm))
    have ne103__w_2_ : (w 2) ≠ b103 := Nat.ne_of_lt (Nat.lt_of_lt_of_le f106.lt (Nat.le_of_eq g103.symm))
    have ne103_b1 : b1 ≠ b103 := Nat.ne_of_lt (Nat.lt_of_lt_of_le f107.lt (Nat.le_of_eq g103.symm))
    have ne103_b17 : b17 ≠ b103 := Nat.ne_of_lt (Nat.lt_of_lt_of_le f108.lt (Nat.le_of_eq g103.symm))
    have ne103_b21 : b21 ≠ b103 := Nat.ne_of_lt (Nat.lt_of_lt_of_le f109.lt (Nat.le_of_eq g103.symm))
    have ne103_b26 : b26 ≠ b103 := Nat.ne_of_lt (Nat.lt_of_lt_of_le f110.lt (Nat.le_of_eq g103.symm))
    have ne103_t44 : t44 ≠ b103 := Nat.ne_of_lt (Nat.lt_of_lt_of_le f111.lt (Nat.le_of_eq g103.symm))
    have ne103_b82 : b82 ≠ b103 := Nat.ne_of_lt (Nat.lt_of_lt_of_le f112.lt (Nat.le_of_eq g103.symm))
    have ne103_b95 : b95 ≠ b103 := Nat.ne_of_lt (Nat.lt_of_lt_of_le A95.lt (Nat.le_of_eq g103.symm))
    have g_b103 : n0 ≤ b103 := Nat.le_trans Z95 (Nat.le_of_eq g103.symm)
    have sz_b103 : h0.size ≤ b103 := Nat.le_trans K95.1 (Nat.le_of_eq g103.symm)
    have F103_coder : Fld Z h103 b103 "java/lang/String" "coder" "B" (.int 0) := D103 (Or.inr (wd hw 40 rfl)) (ty := .byte) (by decide)
    have F103_value : Fld Z h103 b103 "java/lang/String" "value" "[B" .null := D103 (Or.inr (wd hw 42 rfl)) (ty := (.array .byte)) (by decide)
    have K103 : Keep h0 h103 [] := Keep.ext K95 E103
    have Z103 : n0 ≤ h103.size := Nat.le_trans Z95 E103.1
    refine Goes.by st103 ?_
    refine Goes.by (fun _ kz => XS.dup X103.here hx rfl (hb hby at_347) rfl rfl (XS.aload X103.here hx rfl (hb hby at_348) rfl rfl kz)) ?_
    show Goes p e below (T103.setTop (mkF m 350 #[lv p1, .second, lv p2, .second, lv p3, .second, lv p4, .second, iv p5, iv p6, rv b1, iv z1, iv z2, iv oi, iv oj, iv ch0, iv ch1, iv ch2, iv zB, iv 0, iv (((p6.toUInt32 >>> ((4 : Int32) &&& 31).toUInt32).toInt32) &&& (3 : Int32)), rv b17, iv z1, rv b82, lv p1, .second, lv p2, .second, lv p3, .second, lv p4, .second, rv (own_o w oi), .unset, .unset, .unset] [(.ref b82), (.ref b103), (.ref b103), (.int z1), (.ref b95), (.ref b95)])) _
    have f113 := (f112.ext E103)
    have f114 := (((Sta.wr W92 (Sta.wr W91 ((own_staKeep (own_staKeep f37 Kq44 (allS (own_nsE f34) all0)) Kq81 (allS (own_nsE f73) all0)).ext E82))).ext E95).ext E103)
    have f115 := (f104.ext E103)
    have f116 := (f105.ext E103)
    have f117 := (f106.ext E103)
    have f118 := (f107.ext E103)
    have f119 := (f108.ext E103)
    have f120 := (f109.ext E103)
    have f121 := (f110.ext E103)
    have f122 := (f111.ext E103)
    have f123 := (A95.ext E103)
    have hp124 : ∀ c ∈ ([ch0, ch1] : List Int32), ¬ c < 0 ∧ ¬ (255 : Int32) < c := by
      intro c hc; simp only [List.mem_cons, List.not_mem_nil, or_false] at hc
      rcases hc with hc | hc
      · rw [hc]; exact hb_ch0
      · rw [hc]; exact hb_ch1
    have hcd124 : StrChars.Road.CodA ([ch0, ch1] : List Int32) 0 (2 : Int32) ((([ch0, ch1] : List Int32).map (fun c => c.toInt8.toInt32)).map Value.int) := StrChars.Road.codOf (n := 2) rfl (fun c hc => (hp124 c hc).2)
    have hbd124 := own_up _ hp124
    obtain ⟨_, _, ⟨T125, L125, k125, n125⟩, -, X125, ⟨Lc125, hQ125, l125, y125, z125⟩, st125⟩ := X103.specialBack hx (y := (⟨"java/lang/String", "<init>", "([C)V"⟩ : MethodName)) rfl hown (mvT hZ (wd hw 17 rfl)) (mvT hZ (wd hw 18 rfl)) (mvT hZ (wd hw 19 rfl)) (by decide) (StrChars.Road.backV (W := 4) hZ hws (kI := 4) (wd hw 14 rfl) (cs := ([ch0, ch1] : List Int32)) (bs := (([ch0, ch1] : List Int32).map (fun c => c.toInt8.toInt32))) (n := 2) g_b103 Z103 A103 F103_value F103_coder f113 f114 hzc rfl rfl (by decide) (by decide) hp124 rfl (by decide) (by decide)) (g := (mkF m 350 #[lv p1, .second, lv p2, .second, lv p3, .second, lv p4, .second, iv p5, iv p6, rv b1, iv z1, iv z2, iv oi, iv oj, iv ch0, iv ch1, iv ch2, iv zB, iv 0, iv (((p6.toUInt32 >>> ((4 : Int32) &&& 31).toUInt32).toInt32) &&& (3 : Int32)), rv b17, iv z1, rv b82, lv p1, .second, lv p2, .second, lv p3, .second, lv p4, .second, rv (own_o w oi), .unset, .unset, .unset] [(.ref b82), (.ref b103), (.ref b103), (.int z1), (.ref b95), (.ref b95)])) rfl (by rw [hml]; rfl) (Steps.refl _) (a := b103) (argsL := [(.ref b82)]) (rest := [(.ref b103), (.int z1), (.ref b95), (.ref b95)]) (lenOf pd0 rfl) rfl (by show 2 * 0 + _ ≤ _; exact Nat.le_of_eq rfl) (hb hby at_350) (fun _ _ => ⟨rfl, e103, (by decide : 8 + 1 ≤ _), (by decide : 31 + 2 ≤ _)⟩)
    dsimp only [Pt.U, Pt.locs, Pt.cells, Pt.slots] at X125 l125 y125 z125 st125 hQ125
    subst l125 y125 z125
    obtain ⟨rfl, Nq125, Kq125, gE125, gC125, t125, kb125, u1_125, u2_125, u3_125, gV125, gA125⟩ := hQ125
    have K125 : Keep h0 T125.heap [] := Keep.trans K103 Kq125 (allS (Or.inr sz_b103) all0)
    have Z125 : n0 ≤ T125.heap.size := Nat.le_trans Z103 Kq125.1
    have net125__w_0_ : (w 0) ≠ t125 := Nat.ne_of_lt (Nat.lt_of_lt_of_le f115.lt u2_125)
    have net125__w_1_ : (w 1) ≠ t125 := Nat.ne_of_lt (Nat.lt_of_lt_of_le f116.lt u2_125)
    have net125__w_2_ : (w 2) ≠ t125 := Nat.ne_of_lt (Nat.lt_of_lt_of_le f117.lt u2_125)
    have net125_b1 : b1 ≠ t125 := Nat.ne_of_lt (Nat.lt_of_lt_of_le f118.lt u2_125)
    have net125_b17 : b17 ≠ t125 := Nat.ne_of_lt (Nat.lt_of_lt_of_le f119.lt u2_125)
    have net125_b21 : b21 ≠ t125 := Nat.ne_of_lt (Nat.lt_of_lt_of_le f120.lt u2_125)
    have net125_b26 : b26 ≠ t125 := Nat.ne_of_lt (Nat.lt_of_lt_of_le f121.lt u2_125)
    have net125_t44 : t44 ≠ t125 := Nat.ne_of_lt (Nat.lt_of_lt_of_le f122.lt u2_125)
    have net125_b82 : b82 ≠ t125 := Nat.ne_of_lt (Nat.lt_of_lt_of_le f113.lt u2_125)
    have net125_b95 : b95 ≠ t125 := Nat.ne_of_lt (Nat.lt_of_lt_of_le f123.lt u2_125)
    have net125_b103 : b103 ≠ t125 := Nat.ne_of_lt (Nat.lt_of_lt_of_le A103.lt u2_125)
    have g_t125 : n0 ≤ t125 := Nat.le_trans Z103 u2_125
    have sz_t125 : h0.size ≤ t125 := Nat.le_trans K103.1 u2_125
    have N125 := Fr.app N92 Nq125
    refine Goes.tr st125 ?_
    refine Goes.by (fun _ kz => XS.lload X125.here hx rfl (hb hby at_353) rfl (XS.lload X125.here hx rfl (hb hby at_355) rfl (XS.lload X125.here hx rfl (hb hby at_357) rfl kz))) ?_
    show Goes p e below (T125.setTop (mkF m 359 #[lv p1, .second, lv p2, .second, lv p3, .second, lv p4, .second, iv p5, iv p6, rv b1, iv z1, iv z2, iv oi, iv oj, iv ch0, iv ch1, iv ch2, iv zB, iv 0, iv (((p6.toUInt32 >>> ((4 : Int32) &&& 31).toUInt32).toInt32) &&& (3 : Int32)), rv b17, iv z1, rv b82, lv p1, .second, lv p2, .second, lv p3, .second, lv p4, .second, rv (own_o w oi), .unset, .unset, .unset] [(.long p3), (.long p2), (.long p1), (.ref b103), (.int z1), (.ref b95), (.ref b95)])) _
    refine Goes.by (fun _ kz => XS.lload X125.here hx rfl (hb hby at_359) rfl (XS.aload X125.here hx rfl (hb hby at_361) rfl rfl kz)) ?_
    have f126 := (f123.keep Kq125)
    have f127 := ((F95_visible.ext E103).keep Kq125 (ninS ne103_b95 nin0))
    have f128 := ((F95_appearance.ext E103).keep Kq125 (ninS ne103_b95 nin0))
    have f129 := ((F95_x.ext E103).keep Kq125 (ninS ne103_b95 nin0))
    have f130 := ((F95_y.ext E103).keep Kq125 (ninS ne103_b95 nin0))
    have f131 := ((F95_width.ext E103).keep Kq125 (ninS ne103_b95 nin0))
    have f132 := ((F95_height.ext E103).keep Kq125 (ninS ne103_b95 nin0))
    have f133 := ((F95_obscured.ext E103).keep Kq125 (ninS ne103_b95 nin0))
    obtain ⟨_, _, ⟨T134, L134, k134, n134⟩, -, X134, ⟨Lc134, hQ134, l134, y134, z134⟩, st134⟩ := X125.specialBack hx (y := (⟨"com/example/killdeer/killdeer/GadgetView", "<init>", "(ZLjava/lang/String;JJJJLcom/example/killdeer/killdeer/GadgetView$Obscured;)V"⟩ : MethodName)) rfl hown (mvT hZ (wd hw 43 rfl)) (mvT hZ (wd hw 44 rfl)) (mvT hZ (wd hw 45 rfl)) (by decide) (backOf (W := 1) (r7_0 l Z a0 hw [] T125.heap n0 Z125 b95 z1 b103 p1 p2 p3 p4 (own_o w oi) f126 f127 f128 f129 f130 f131 f132 f133 g_b95) hZ (wd hw 45 rfl) (wd hw 12 rfl) (by decide) (by decide)) (g := (mkF m 363 #[lv p1, .second, lv p2, .second, lv p3, .second, lv p4, .second, iv p5, iv p6, rv b1, iv z1, iv z2, iv oi, iv oj, iv ch0, iv ch1, iv ch2, iv zB, iv 0, iv (((p6.toUInt32 >>> ((4 : Int32) &&& 31).toUInt32).toInt32) &&& (3 : Int32)), rv b17, iv z1, rv b82, lv p1, .second, lv p2, .second, lv p3, .second, lv p4, .second, rv (own_o w oi), .unset, .unset, .unset] [(.ref (own_o w oi)), (.long p4), (.long p3), (.long p2), (.long p1), (.ref b103), (.int z1), (.ref b95), (.ref b95)])) rfl (by rw [hml]; rfl) (Steps.refl _) (a := b95) (argsL := [(.int z1), (.ref b103), (.long p1), (.long p2), (.long p3), (.long p4), (.ref (own_o w oi))]) (rest := [(.ref b95)]) (lenOf pd1 rfl) rfl (by show 2 * 0 + _ ≤ _; exact Nat.le_of_eq rfl) (hb hby at_363) (fun _ _ => ⟨rfl, rfl, (by decide : 9 + 0 ≤ _), (by decide : 33 + 0 ≤ _)⟩)
    dsimp only [Pt.U, Pt.locs, Pt.cells, Pt.slots] at X134 l134 y134 z134 st134 hQ134
    subst l134 y134 z134
    obtain ⟨rfl, Nq134, Kq134, fq134_0, fq134_1, fq134_2, fq134_3, fq134_4, fq134_5, fq134_6⟩ := hQ134
    have K134 : Keep h0 T134.heap [] := Keep.trans K125 Kq134 (allS (Or.inr sz_b95) all0)
    have Z134 : n0 ≤ T134.heap.size := Nat.le_trans Z125 Kq134.1
    have N134 := Fr.app N125 Nq134
    refine Goes.tr st134 ?_
    refine Goes.by (fun _ kz => XS.astore X134.here hx rfl (hb hby at_366) rfl rfl rfl (XS.iload X134.here hx rfl (hb hby at_368) rfl (XS.ifNo X134.here hx rfl (hb hby at_370) rfl ((if0 _ _).trans (teq (by decide : (0 : Int32) = (0 : Int32))).2) kz))) ?_
    show Goes p e below (T134.setTop (mkF m 373 #[lv p1, .second, lv p2, .second, lv p3, .second, lv p4, .second, iv p5, iv p6, rv b1, iv z1, iv z2, iv oi, iv oj, iv ch0, iv ch1, iv ch2, iv zB, iv 0, iv (((p6.toUInt32 >>> ((4 : Int32) &&& 31).toUInt32).toInt32) &&& (3 : Int32)), rv b17, iv z1, rv b82, lv p1, .second, lv p2, .second, lv p3, .second, lv p4, .second, rv (own_o w oi), rv b95, .unset, .unset] [])) _
    refine Goes.by (fun _ kz => XS.iconst X134.here hx rfl (hb hby at_373) (XS.istore X134.here hx rfl (hb hby at_374) rfl rfl (XS.goto X134.here hx rfl (pc0 := 376) (pc' := 538) rfl (hb hby at_376) (by decide) (by decide) kz))) ?_
    show Goes p e below (T134.setTop (mkF m 538 #[lv p1, .second, lv p2, .second, lv p3, .second, lv p4, .second, iv p5, iv p6, rv b1, iv z1, iv z2, iv oi, iv oj, iv ch0, iv ch1, iv ch2, iv zB, iv 0, iv (((p6.toUInt32 >>> ((4 : Int32) &&& 31).toUInt32).toInt32) &&& (3 : Int32)), rv b17, iv z1, rv b82, lv p1, .second, lv p2, .second, lv p3, .second, lv p4, .second, rv (own_o w oi), rv b95, iv 1, .unset] [])) _
    have hsot := own_k (((p6.toUInt32 >>> ((4 : Int32) &&& 31).toUInt32).toInt32))
    obtain ⟨ot, hot⟩ : ∃ z, z = (((p6.toUInt32 >>> ((4 : Int32) &&& 31).toUInt32).toInt32) &&& (3 : Int32)) := ⟨_, rfl⟩
    rw [← hot] at hsot ⊢
    rcases hsot with rfl | rfl | rfl | rfl
    · show Goes p e below (T134.setTop (mkF m 538 #[lv p1, .second, lv p2, .second, lv p3, .second, lv p4, .second, iv p5, iv p6, rv b1, iv z1, iv z2, iv oi, iv oj, iv ch0, iv ch1, iv ch2, iv zB, iv 0, iv 0, rv b17, iv z1, rv b82, lv p1, .second, lv p2, .second, lv p3, .second, lv p4, .second, rv (own_o w oi), rv b95, iv 1, .unset] [])) _
      refine Goes.by (fun _ kz => XS.iload X134.here hx rfl (hb hby at_538) rfl (XS.iconst X134.here hx rfl (hb hby at_540) (XS.icmpYes X134.here hx rfl (pc0 := 541) (pc' := 552) rfl (hb hby at_541) rfl (feq (by decide : ¬ ((0 : Int32) = (1 : Int32)))).2 (by decide) (by decide) kz))) ?_
      show Goes p e below (T134.setTop (mkF m 552 #[lv p1, .second, lv p2, .second, lv p3, .second, lv p4, .second, iv p5, iv p6, rv b1, iv z1, iv z2, iv oi, iv oj, iv ch0, iv ch1, iv ch2, iv zB, iv 0, iv 0, rv b17, iv z1, rv b82, lv p1, .second, lv p2, .second, lv p3, .second, lv p4, .second, rv (own_o w oi), rv b95, iv 1, .unset] [])) _
      refine Goes.by (fun _ kz => XS.iload X134.here hx rfl (hb hby at_552) rfl (XS.iconst X134.here hx rfl (hb hby at_554) (XS.icmpYes X134.here hx rfl (pc0 := 555) (pc' := 573) rfl (hb hby at_555) rfl (feq (by decide : ¬ ((0 : Int32) = (2 : Int32)))).2 (by decide) (by decide) kz))) ?_
      show Goes p e below (T134.setTop (mkF m 573 #[lv p1, .second, lv p2, .second, lv p3, .second, lv p4, .second, iv p5, iv p6, rv b1, iv z1, iv z2, iv oi, iv oj, iv ch0, iv ch1, iv ch2, iv zB, iv 0, iv 0, rv b17, iv z1, rv b82, lv p1, .second, lv p2, .second, lv p3, .second, lv p4, .second, rv (own_o w oi), rv b95, iv 1, .unset] [])) _
      refine Goes.by (fun _ kz => XS.iload X134.here hx rfl (hb hby at_573) rfl (XS.iconst X134.here hx rfl (hb hby at_575) (XS.icmpYes X134.here hx rfl (pc0 := 576) (pc' := 612) rfl (hb hby at_576) rfl (feq (by decide : ¬ ((0 : Int32) = (3 : Int32)))).2 (by decide) (by decide) kz))) ?_
      show Goes p e below (T134.setTop (mkF m 612 #[lv p1, .second, lv p2, .second, lv p3, .second, lv p4, .second, iv p5, iv p6, rv b1, iv z1, iv z2, iv oi, iv oj, iv ch0, iv ch1, iv ch2, iv zB, iv 0, iv 0, rv b17, iv z1, rv b82, lv p1, .second, lv p2, .second, lv p3, .second, lv p4, .second, rv (own_o w oi), rv b95, iv 1, .unset] [])) _
      refine Goes.by (fun _ kz => XS.aload X134.here hx rfl (hb hby at_612) rfl rfl (XS.aload X134.here hx rfl (hb hby at_614) rfl rfl kz)) ?_
      have f158 := ((f119.keep Kq125).keep Kq134)
      have f159 := (((((Fld.other W92 (Fld.other W91 (fq81_0.ext E82) (Or.inl ne82_b17)) (Or.inl ne82_b17)).ext E95).ext E103).keep Kq125 (ninS ne103_b17 nin0)).keep Kq134 (ninS ne95_b17 nin0))
      have f160 := (((((Fld.other W92 (Fld.other W91 (fq81_1.ext E82) (Or.inl ne82_b17)) (Or.inl ne82_b17)).ext E95).ext E103).keep Kq125 (ninS ne103_b17 nin0)).keep Kq134 (ninS ne95_b17 nin0))
      have f161 := (((((Fld.other W92 (Fld.other W91 (fq81_2.ext E82) (Or.inl ne82_b17)) (Or.inl ne82_b17)).ext E95).ext E103).keep Kq125 (ninS ne103_b17 nin0)).keep Kq134 (ninS ne95_b17 nin0))
      have f162 := (((((Fld.other W92 (Fld.other W91 (fq81_3.ext E82) (Or.inl ne82_b17)) (Or.inl ne82_b17)).ext E95).ext E103).keep Kq125 (ninS ne103_b17 nin0)).keep Kq134 (ninS ne95_b17 nin0))
      have f163 := (((((Fld.other W92 (Fld.other W91 (fq81_4.ext E82) (Or.inl ne82_b17)) (Or.inl ne82_b17)).ext E95).ext E103).keep Kq125 (ninS ne103_b17 nin0)).keep Kq134 (ninS ne95_b17 nin0))
      have f164 := (((((Fld.other W92 (Fld.other W91 (fq81_5.ext E82) (Or.inl ne82_b17)) (Or.inl ne82_b17)).ext E95).ext E103).keep Kq125 (ninS ne103_b17 nin0)).keep Kq134 (ninS ne95_b17 nin0))
      have f165 := (((((Fld.other W92 (Fld.other W91 (fq81_6.ext E82) (Or.inl ne82_b17)) (Or.inl ne82_b17)).ext E95).ext E103).keep Kq125 (ninS ne103_b17 nin0)).keep Kq134 (ninS ne95_b17 nin0))
      have f166 := ((f120.keep Kq125).keep Kq134)
      have f167 := (((((Fld.other W92 (Fld.other W91 ((gV44.keep Kq81 (ninS (Ne.symm ne21_b17) nin0)).ext E82) (Or.inl ne82_b21)) (Or.inl ne82_b21)).ext E95).ext E103).keep Kq125 (ninS ne103_b21 nin0)).keep Kq134 (ninS ne95_b21 nin0))
      have f168 := (((((Fld.other W92 (Fld.other W91 ((gC44.keep Kq81 (ninS (Ne.symm ne21_b17) nin0)).ext E82) (Or.inl ne82_b21)) (Or.inl ne82_b21)).ext E95).ext E103).keep Kq125 (ninS ne103_b21 nin0)).keep Kq134 (ninS ne95_b21 nin0))
      have f169 := ((f122.keep Kq125 (ninS ne103_t44 nin0)).keep Kq134 (ninS ne95_t44 nin0))
      have f170 := (f126.keep Kq134)
      have f171 := ((A103.keep Kq125).keep Kq134)
      have f172 := (gV125.keep Kq134 (ninS (Ne.symm ne103_b95) nin0))
      have f173 := (gC125.keep Kq134 (ninS (Ne.symm ne103_b95) nin0))
      have f174 := (gA125.keep Kq134 (ninS (Ne.symm net125_b95) nin0))
      have f175 := (own_staKeep (own_staKeep f114 Kq125 (allS (own_nsE A103) all0)) Kq134 (allS (own_nsE f126) all0))
      obtain ⟨cq176, kq176, q176a, q176b, q176c⟩ := isOf hZ rfl f158
      obtain ⟨_, _, ⟨T176, L176, k176, n176⟩, -, X176, ⟨Lc176, hQ176, l176, y176, z176⟩, st176⟩ := X134.virtualBack hx (y := (⟨"com/example/killdeer/killdeer/GadgetView", "equals", "(Ljava/lang/Object;)Z"⟩ : MethodName)) (z := (⟨"com/example/killdeer/killdeer/GadgetView", "equals", "(Ljava/lang/Object;)Z"⟩ : MethodName)) hown (mvT hZ (wd hw 61 rfl)) (mvT hZ (wd hw 62 rfl)) (notFace_of_selects (args := #[]) (mvT hZ (wd hw 64 rfl))) (mvT hZ (wd hw 64 rfl)) (mvT hZ (wd hw 63 rfl)) (by decide) (backOf (W := 0) (r8_0 l Z a0 hw [] T134.heap n0 Z134 b17 b95 (nar .boolean z1) (nar .boolean z1) b21 b103 t44 t125 kb44 kb125 ([ch0, ch1] : List Int32) ([ch0, ch1] : List Int32) (2 : Int32) (2 : Int32) ((([ch0, ch1] : List Int32).map (fun c => c.toInt8.toInt32)).map Value.int) ((([ch0, ch1] : List Int32).map (fun c => c.toInt8.toInt32)).map Value.int) p1 p1 p2 p2 p3 p3 p4 p4 (own_o w oi) (own_o w oi) zc f158 f159 f160 f161 f162 f163 f164 f165 f166 f167 f168 f169 hcd43 hbd43 (by simp) f170 fq134_0 fq134_1 fq134_2 fq134_3 fq134_4 fq134_5 fq134_6 f171 f172 f173 f174 hcd124 hbd124 (by simp) f175 hzc ne95_b17) hZ (wd hw 65 rfl) (wd hw 12 rfl) (by decide) (by decide)) q176a q176c (g := (mkF m 616 #[lv p1, .second, lv p2, .second, lv p3, .second, lv p4, .second, iv p5, iv p6, rv b1, iv z1, iv z2, iv oi, iv oj, iv ch0, iv ch1, iv ch2, iv zB, iv 0, iv 0, rv b17, iv z1, rv b82, lv p1, .second, lv p2, .second, lv p3, .second, lv p4, .second, rv (own_o w oi), rv b95, iv 1, .unset] [(.ref b95), (.ref b17)])) rfl (by rw [hml]; rfl) (Steps.refl _) (argsL := [(.ref b95)]) (rest := []) (lenOf pd2 rfl) rfl (by show 2 * 0 + _ ≤ _; exact Nat.le_of_eq rfl) (hb hby at_616) (fun _ _ => ⟨rfl, rfl, (by decide : 9 + 0 ≤ _), (by decide : 33 + 0 ≤ _)⟩)
      dsimp only [Pt.U, Pt.locs, Pt.cells, Pt.slots] at X176 l176 y176 z176 st176 hQ176
      subst l176 y176 z176
      rcases hQ176 with hQ176 | hQ176
      · obtain ⟨rfl, Nq176, e176, hS176⟩ := hQ176
        have N176 := Fr.app N134 Nq176
        refine Goes.tr st176 ?_
        refine Goes.by (fun _ kz => XS.iload X176.here hx rfl (hb hby at_619) rfl (XS.icmpNo X176.here hx rfl (hb hby at_621) rfl (teq (by decide : (1 : Int32) = (1 : Int32))).2 (XS.aload X176.here hx rfl (hb hby at_624) rfl rfl kz))) ?_
        show Goes p e below (T176.setTop (mkF m 626 #[lv p1, .second, lv p2, .second, lv p3, .second, lv p4, .second, iv p5, iv p6, rv b1, iv z1, iv z2, iv oi, iv oj, iv ch0, iv ch1, iv ch2, iv zB, iv 0, iv 0, rv b17, iv z1, rv b82, lv p1, .second, lv p2, .second, lv p3, .second, lv p4, .second, rv (own_o w oi), rv b95, iv 1, .unset] [(.ref b95)])) _
        refine Goes.by (fun _ kz => XS.aload X176.here hx rfl (hb hby at_626) rfl rfl kz) ?_
        obtain ⟨cq177, kq177, q177a, q177b, q177c⟩ := isOf hZ e176 f170
        obtain ⟨_, _, ⟨T177, L177, k177, n177⟩, -, X177, ⟨Lc177, hQ177, l177, y177, z177⟩, st177⟩ := X176.virtualBack hx (y := (⟨"com/example/killdeer/killdeer/GadgetView", "equals", "(Ljava/lang/Object;)Z"⟩ : MethodName)) (z := (⟨"com/example/killdeer/killdeer/GadgetView", "equals", "(Ljava/lang/Object;)Z"⟩ : MethodName)) hown (mvT hZ (wd hw 61 rfl)) (mvT hZ (wd hw 62 rfl)) (notFace_of_selects (args := #[]) (mvT hZ (wd hw 64 rfl))) (mvT hZ (wd hw 64 rfl)) (mvT hZ (wd hw 63 rfl)) (by decide) (backOf (W := 0) (r8_0 l Z a0 hw [] T134.heap n0 Z134 b95 b17 (nar .boolean z1) (nar .boolean z1) b103 b21 t125 t44 kb125 kb44 ([ch0, ch1] : List Int32) ([ch0, ch1] : List Int32) (2 : Int32) (2 : Int32) ((([ch0, ch1] : List Int32).map (fun c => c.toInt8.toInt32)).map Value.int) ((([ch0, ch1] : List Int32).map (fun c => c.toInt8.toInt32)).map Value.int) p1 p1 p2 p2 p3 p3 p4 p4 (own_o w oi) (own_o w oi) zc f170 fq134_0 fq134_1 fq134_2 fq134_3 fq134_4 fq134_5 fq134_6 f171 f172 f173 f174 hcd124 hbd124 (by simp) f158 f159 f160 f161 f162 f163 f164 f165 f166 f167 f168 f169 hcd43 hbd43 (by simp) f175 hzc (Ne.symm ne95_b17)) hZ (wd hw 65 rfl) (wd hw 12 rfl) (by decide) (by decide)) q177a q177c (g := (mkF m 628 #[lv p1, .second, lv p2, .second, lv p3, .second, lv p4, .second, iv p5, iv p6, rv b1, iv z1, iv z2, iv oi, iv oj, iv ch0, iv ch1, iv ch2, iv zB, iv 0, iv 0, rv b17, iv z1, rv b82, lv p1, .second, lv p2, .second, lv p3, .second, lv p4, .second, rv (own_o w oi), rv b95, iv 1, .unset] [(.ref b17), (.ref b95)])) rfl (by rw [hml]; rfl) (Steps.refl _) (argsL := [(.ref b17)]) (rest := []) (lenOf pd2 rfl) rfl (by show 2 * 0 + _ ≤ _; exact Nat.le_of_eq rfl) (hb hby at_628) (fun _ _ => ⟨rfl, e176, (by decide : 9 + 0 ≤ _), (by decide : 33 + 0 ≤ _)⟩)
        dsimp only [Pt.U, Pt.locs, Pt.cells, Pt.slots] at X177 l177 y177 z177 st177 hQ177
        subst l177 y177 z177
        rcases hQ177 with hQ177 | hQ177
        · obtain ⟨rfl, Nq177, e177, hS177⟩ := hQ177
          have N177 := Fr.app N176 Nq177
          refine Goes.tr st177 ?_
          refine Goes.by (fun _ kz => XS.iload X177.here hx rfl (hb hby at_631) rfl (XS.icmpNo X177.here hx rfl (hb hby at_633) rfl (teq (by decide : (1 : Int32) = (1 : Int32))).2 (XS.iconst X177.here hx rfl (hb hby at_636) kz))) ?_
          show Goes p e below (T177.setTop (mkF m 637 #[lv p1, .second, lv p2, .second, lv p3, .second, lv p4, .second, iv p5, iv p6, rv b1, iv z1, iv z2, iv oi, iv oj, iv ch0, iv ch1, iv ch2, iv zB, iv 0, iv 0, rv b17, iv z1, rv b82, lv p1, .second, lv p2, .second, lv p3, .second, lv p4, .second, rv (own_o w oi), rv b95, iv 1, .unset] [(.int 1)])) _
          refine Goes.by (fun _ kz => XS.goto X177.here hx rfl (pc0 := 637) (pc' := 641) rfl (hb hby at_637) (by decide) (by decide) kz) ?_
          show Goes p e below (T177.setTop (mkF m 641 #[lv p1, .second, lv p2, .second, lv p3, .second, lv p4, .second, iv p5, iv p6, rv b1, iv z1, iv z2, iv oi, iv oj, iv ch0, iv ch1, iv ch2, iv zB, iv 0, iv 0, rv b17, iv z1, rv b82, lv p1, .second, lv p2, .second, lv p3, .second, lv p4, .second, rv (own_o w oi), rv b95, iv 1, .unset] [(.int 1)])) _
          obtain ⟨fs, hr, hrun, hended, hW, hsame⟩ := X177.leave (v := some (.int 1)) (fun h => by rw [Bd.returns] at h; cases h)
          exact ⟨_, _, retN X177 hx (t := .boolean) Bd.returns (by simp) (hb hby at_641) hr, hrun, hended, _, _, rfl, ⟨rfl, N177⟩, ⟨_, rfl⟩, hW, hsame.mono (by decide) (by decide)⟩
        · obtain ⟨rfl, Nq177, e177, hS177⟩ := hQ177
          have N177 := Fr.app N176 Nq177
          refine Goes.tr st177 ?_
          refine Goes.by (fun _ kz => XS.iload X177.here hx rfl (hb hby at_631) rfl (XS.icmpYes X177.here hx rfl (pc0 := 633) (pc' := 640) rfl (hb hby at_633) rfl (feq (by decide : ¬ ((0 : Int32) = (1 : Int32)))).2 (by decide) (by decide) (XS.iconst X177.here hx rfl (hb hby at_640) kz))) ?_
          show Goes p e below (T177.setTop (mkF m 641 #[lv p1, .second, lv p2, .second, lv p3, .second, lv p4, .second, iv p5, iv p6, rv b1, iv z1, iv z2, iv oi, iv oj, iv ch0, iv ch1, iv ch2, iv zB, iv 0, iv 0, rv b17, iv z1, rv b82, lv p1, .second, lv p2, .second, lv p3, .second, lv p4, .second, rv (own_o w oi), rv b95, iv 1, .unset] [(.int 0)])) _
          exfalso
          revert hS177
          simp [own_same, own_nb hz1, own_nb hz2, own_oinj pne01 pne02 pne12 h_oi h_oj, own_oinj pne01 pne02 pne12 h_oj h_oi]
      · obtain ⟨rfl, Nq176, e176, hS176⟩ := hQ176
        have N176 := Fr.app N134 Nq176
        refine Goes.tr st176 ?_
        refine Goes.by (fun _ kz => XS.iload X176.here hx rfl (hb hby at_619) rfl (XS.icmpYes X176.here hx rfl (pc0 := 621) (pc' := 640) rfl (hb hby at_621) rfl (feq (by decide : ¬ ((0 : Int32) = (1 : Int32)))).2 (by decide) (by decide) (XS.iconst X176.here hx rfl (hb hby at_640) kz))) ?_
        show Goes p e below (T176.setTop (mkF m 641 #[lv p1, .second, lv p2, .second, lv p3, .second, lv p4, .second, iv p5, iv p6, rv b1, iv z1, iv z2, iv oi, iv oj, iv ch0, iv ch1, iv ch2, iv zB, iv 0, iv 0, rv b17, iv z1, rv b82, lv p1, .second, lv p2, .second, lv p3, .second, lv p4, .second, rv (own_o w oi), rv b95, iv 1, .unset] [(.int 0)])) _
        exfalso
        revert hS176
        simp [own_same, own_nb hz1, own_nb hz2, own_oinj pne01 pne02 pne12 h_oi h_oj, own_oinj pne01 pne02 pne12 h_oj h_oi]
    · show Goes p e below (T134.setTop (mkF m 538 #[lv p1, .second, lv p2, .second, lv p3, .second, lv p4, .second, iv p5, iv p6, rv b1, iv z1, iv z2, iv oi, iv oj, iv ch0, iv ch1, iv ch2, iv zB, iv 0, iv 1, rv b17, iv z1, rv b82, lv p1, .second, lv p2, .second, lv p3, .second, lv p4, .second, rv (own_o w oi), rv b95, iv 1, .unset] [])) _
      refine Goes.by (fun _ kz => XS.iload X134.here hx rfl (hb hby at_538) rfl (XS.iconst X134.here hx rfl (hb hby at_540) (XS.icmpNo X134.here hx rfl (hb hby at_541) rfl (teq (by decide : (1 : Int32) = (1 : Int32))).2 kz))) ?_
      show Goes p e below (T134.setTop (mkF m 544 #[lv p1, .second, lv p2, .second, lv p3, .second, lv p4, .second, iv p5, iv p6, rv b1, iv z1, iv z2, iv oi, iv oj, iv ch0, iv ch1, iv ch2, iv zB, iv 0, iv 1, rv b17, iv z1, rv b82, lv p1, .second, lv p2, .second, lv p3, .second, lv p4, .second, rv (own_o w oi), rv b95, iv 1, .unset] [])) _
      refine Goes.by (fun _ kz => XS.aload X134.here hx rfl (hb hby at_544) rfl rfl (XS.aload X134.here hx rfl (hb hby at_546) rfl rfl kz)) ?_
      have f179 := ((f119.keep Kq125).keep Kq134)
      obtain ⟨cq178, kq178, q178a, q178b, q178c⟩ := isOf hZ rfl f179
      obtain ⟨_, _, ⟨T178, L178, k178, n178⟩, -, X178, ⟨Lc178, hQ178, l178, y178, z178⟩, st178⟩ := X134.virtualBack hx (y := (⟨"com/example/killdeer/killdeer/GadgetView", "equals", "(Ljava/lang/Object;)Z"⟩ : MethodName)) (z := (⟨"com/example/killdeer/killdeer/GadgetView", "equals", "(Ljava/lang/Object;)Z"⟩ : MethodName)) hown (mvT hZ (wd hw 61 rfl)) (mvT hZ (wd hw 62 rfl)) (notFace_of_selects (args := #[]) (mvT hZ (wd hw 64 rfl))) (mvT hZ (wd hw 64 rfl)) (mvT hZ (wd hw 63 rfl)) (by decide) (backOf (W := 0) (r8_same l Z a0 hw [] T134.heap n0 Z134 b17) hZ (wd hw 65 rfl) (wd hw 12 rfl) (by decide) (by decide)) q178a q178c (g := (mkF m 548 #[lv p1, .second, lv p2, .second, lv p3, .second, lv p4, .second, iv p5, iv p6, rv b1, iv z1, iv z2, iv oi, iv oj, iv ch0, iv ch1, iv ch2, iv zB, iv 0, iv 1, rv b17, iv z1, rv b82, lv p1, .second, lv p2, .second, lv p3, .second, lv p4, .second, rv (own_o w oi), rv b95, iv 1, .unset] [(.ref b17), (.ref b17)])) rfl (by rw [hml]; rfl) (Steps.refl _) (argsL := [(.ref b17)]) (rest := []) (lenOf pd2 rfl) rfl (by show 2 * 0 + _ ≤ _; exact Nat.le_of_eq rfl) (hb hby at_548) (fun _ _ => ⟨rfl, rfl, (by decide : 9 + 0 ≤ _), (by decide : 33 + 0 ≤ _)⟩)
      dsimp only [Pt.U, Pt.locs, Pt.cells, Pt.slots] at X178 l178 y178 z178 st178 hQ178
      subst l178 y178 z178
      obtain ⟨rfl, Nq178, e178⟩ := hQ178
      have N178 := Fr.app N134 Nq178
      refine Goes.tr st178 ?_
      show Goes p e below (T178.setTop (mkF m 551 #[lv p1, .second, lv p2, .second, lv p3, .second, lv p4, .second, iv p5, iv p6, rv b1, iv z1, iv z2, iv oi, iv oj, iv ch0, iv ch1, iv ch2, iv zB, iv 0, iv 1, rv b17, iv z1, rv b82, lv p1, .second, lv p2, .second, lv p3, .second, lv p4, .second, rv (own_o w oi), rv b95, iv 1, .unset] [(.int 1)])) _
      obtain ⟨fs, hr, hrun, hended, hW, hsame⟩ := X178.leave (v := some (.int 1)) (fun h => by rw [Bd.returns] at h; cases h)
      exact ⟨_, _, retN X178 hx (t := .boolean) Bd.returns (by simp) (hb hby at_551) hr, hrun, hended, _, _, rfl, ⟨rfl, N178⟩, ⟨_, rfl⟩, hW, hsame.mono (by decide) (by decide)⟩
    · show Goes p e below (T134.setTop (mkF m 538 #[lv p1, .second, lv p2, .second, lv p3, .second, lv p4, .second, iv p5, iv p6, rv b1, iv z1, iv z2, iv oi, iv oj, iv ch0, iv ch1, iv ch2, iv zB, iv 0, iv 2, rv b17, iv z1, rv b82, lv p1, .second, lv p2, .second, lv p3, .second, lv p4, .second, rv (own_o w oi), rv b95, iv 1, .unset] [])) _
      refine Goes.by (fun _ kz => XS.iload X134.here hx rfl (hb hby at_538) rfl (XS.iconst X134.here hx rfl (hb hby at_540) (XS.icmpYes X134.here hx rfl (pc0 := 541) (pc' := 552) rfl (hb hby at_541) rfl (feq (by decide : ¬ ((2 : Int32) = (1 : Int32)))).2 (by decide) (by decide) kz))) ?_
      show Goes p e below (T134.setTop (mkF m 552 #[lv p1, .second, lv p2, .second, lv p3, .second, lv p4, .second, iv p5, iv p6, rv b1, iv z1, iv z2, iv oi, iv oj, iv ch0, iv ch1, iv ch2, iv zB, iv 0, iv 2, rv b17, iv z1, rv b82, lv p1, .second, lv p2, .second, lv p3, .second, lv p4, .second, rv (own_o w oi), rv b95, iv 1, .unset] [])) _
      refine Goes.by (fun _ kz => XS.iload X134.here hx rfl (hb hby at_552) rfl (XS.iconst X134.here hx rfl (hb hby at_554) (XS.icmpNo X134.here hx rfl (hb hby at_555) rfl (teq (by decide : (2 : Int32) = (2 : Int32))).2 kz))) ?_
      show Goes p e below (T134.setTop (mkF m 558 #[lv p1, .second, lv p2, .second, lv p3, .second, lv p4, .second, iv p5, iv p6, rv b1, iv z1, iv z2, iv oi, iv oj, iv ch0, iv ch1, iv ch2, iv zB, iv 0, iv 2, rv b17, iv z1, rv b82, lv p1, .second, lv p2, .second, lv p3, .second, lv p4, .second, rv (own_o w oi), rv b95, iv 1, .unset] [])) _
      refine Goes.by (fun _ kz => XS.aload X134.here hx rfl (hb hby at_558) rfl rfl (XS.aconstNull X134.here hx rfl (hb hby at_560) kz)) ?_
      have f181 := ((f119.keep Kq125).keep Kq134)
      obtain ⟨cq180, kq180, q180a, q180b, q180c⟩ := isOf hZ rfl f181
      obtain ⟨_, _, ⟨T180, L180, k180, n180⟩, -, X180, ⟨Lc180, hQ180, l180, y180, z180⟩, st180⟩ := X134.virtualBack hx (y := (⟨"com/example/killdeer/killdeer/GadgetView", "equals", "(Ljava/lang/Object;)Z"⟩ : MethodName)) (z := (⟨"com/example/killdeer/killdeer/GadgetView", "equals", "(Ljava/lang/Object;)Z"⟩ : MethodName)) hown (mvT hZ (wd hw 61 rfl)) (mvT hZ (wd hw 62 rfl)) (notFace_of_selects (args := #[]) (mvT hZ (wd hw 64 rfl))) (mvT hZ (wd hw 64 rfl)) (mvT hZ (wd hw 63 rfl)) (by decide) (backOf (W := 0) (r8_null l Z a0 hw [] T134.heap n0 Z134 b17) hZ (wd hw 65 rfl) (wd hw 12 rfl) (by decide) (by decide)) q180a q180c (g := (mkF m 561 #[lv p1, .second, lv p2, .second, lv p3, .second, lv p4, .second, iv p5, iv p6, rv b1, iv z1, iv z2, iv oi, iv oj, iv ch0, iv ch1, iv ch2, iv zB, iv 0, iv 2, rv b17, iv z1, rv b82, lv p1, .second, lv p2, .second, lv p3, .second, lv p4, .second, rv (own_o w oi), rv b95, iv 1, .unset] [.null, (.ref b17)])) rfl (by rw [hml]; rfl) (Steps.refl _) (argsL := [.null]) (rest := []) (lenOf pd2 rfl) rfl (by show 2 * 0 + _ ≤ _; exact Nat.le_of_eq rfl) (hb hby at_561) (fun _ _ => ⟨rfl, rfl, (by decide : 9 + 0 ≤ _), (by decide : 33 + 0 ≤ _)⟩)
      dsimp only [Pt.U, Pt.locs, Pt.cells, Pt.slots] at X180 l180 y180 z180 st180 hQ180
      subst l180 y180 z180
      obtain ⟨rfl, Nq180, e180⟩ := hQ180
      have N180 := Fr.app N134 Nq180
      refine Goes.tr st180 ?_
      refine Goes.by (fun _ kz => XS.ifNo X180.here hx rfl (hb hby at_564) rfl ((if0 _ _).trans (teq (by decide : (0 : Int32) = (0 : Int32))).2) (XS.iconst X180.here hx rfl (hb hby at_567) (XS.goto X180.here hx rfl (pc0 := 568) (pc' := 572) rfl (hb hby at_568) (by decide) (by decide) kz))) ?_
      show Goes p e below (T180.setTop (mkF m 572 #[lv p1, .second, lv p2, .second, lv p3, .second, lv p4, .second, iv p5, iv p6, rv b1, iv z1, iv z2, iv oi, iv oj, iv ch0, iv ch1, iv ch2, iv zB, iv 0, iv 2, rv b17, iv z1, rv b82, lv p1, .second, lv p2, .second, lv p3, .second, lv p4, .second, rv (own_o w oi), rv b95, iv 1, .unset] [(.int 1)])) _
      obtain ⟨fs, hr, hrun, hended, hW, hsame⟩ := X180.leave (v := some (.int 1)) (fun h => by rw [Bd.returns] at h; cases h)
      exact ⟨_, _, retN X180 hx (t := .boolean) Bd.returns (by simp) (hb hby at_572) hr, hrun, hended, _, _, rfl, ⟨rfl, N180⟩, ⟨_, rfl⟩, hW, hsame.mono (by decide) (by decide)⟩
    · show Goes p e below (T134.setTop (mkF m 538 #[lv p1, .second, lv p2, .second, lv p3, .second, lv p4, .second, iv p5, iv p6, rv b1, iv z1, iv z2, iv oi, iv oj, iv ch0, iv ch1, iv ch2, iv zB, iv 0, iv 3, rv b17, iv z1, rv b82, lv p1, .second, lv p2, .second, lv p3, .second, lv p4, .second, rv (own_o w oi), rv b95, iv 1, .unset] [])) _
      refine Goes.by (fun _ kz => XS.iload X134.here hx rfl (hb hby at_538) rfl (XS.iconst X134.here hx rfl (hb hby at_540) (XS.icmpYes X134.here hx rfl (pc0 := 541) (pc' := 552) rfl (hb hby at_541) rfl (feq (by decide : ¬ ((3 : Int32) = (1 : Int32)))).2 (by decide) (by decide) kz))) ?_
      show Goes p e below (T134.setTop (mkF m 552 #[lv p1, .second, lv p2, .second, lv p3, .second, lv p4, .second, iv p5, iv p6, rv b1, iv z1, iv z2, iv oi, iv oj, iv ch0, iv ch1, iv ch2, iv zB, iv 0, iv 3, rv b17, iv z1, rv b82, lv p1, .second, lv p2, .second, lv p3, .second, lv p4, .second, rv (own_o w oi), rv b95, iv 1, .unset] [])) _
      refine Goes.by (fun _ kz => XS.iload X134.here hx rfl (hb hby at_552) rfl (XS.iconst X134.here hx rfl (hb hby at_554) (XS.icmpYes X134.here hx rfl (pc0 := 555) (pc' := 573) rfl (hb hby at_555) rfl (feq (by decide : ¬ ((3 : Int32) = (2 : Int32)))).2 (by decide) (by decide) kz))) ?_
      show Goes p e below (T134.setTop (mkF m 573 #[lv p1, .second, lv p2, .second, lv p3, .second, lv p4, .second, iv p5, iv p6, rv b1, iv z1, iv z2, iv oi, iv oj, iv ch0, iv ch1, iv ch2, iv zB, iv 0, iv 3, rv b17, iv z1, rv b82, lv p1, .second, lv p2, .second, lv p3, .second, lv p4, .second, rv (own_o w oi), rv b95, iv 1, .unset] [])) _
      refine Goes.by (fun _ kz => XS.iload X134.here hx rfl (hb hby at_573) rfl (XS.iconst X134.here hx rfl (hb hby at_575) (XS.icmpNo X134.here hx rfl (hb hby at_576) rfl (teq (by decide : (3 : Int32) = (3 : Int32))).2 kz))) ?_
      have f183 := ((f115.keep Kq125).keep Kq134)
      have f184 := ((f116.keep Kq125).keep Kq134)
      have f185 := ((f117.keep Kq125).keep Kq134)
      have f186 := ((f118.keep Kq125 (ninS ne103_b1 nin0)).keep Kq134 (ninS ne95_b1 nin0))
      have f187 := ((f119.keep Kq125).keep Kq134)
      have f188 := ((f120.keep Kq125).keep Kq134)
      have f189 := ((f121.keep Kq125 (ninS ne103_b26 nin0)).keep Kq134 (ninS ne95_b26 nin0))
      have f190 := ((f122.keep Kq125 (ninS ne103_t44 nin0)).keep Kq134 (ninS ne95_t44 nin0))
      have f191 := ((f113.keep Kq125 (ninS ne103_b82 nin0)).keep Kq134 (ninS ne95_b82 nin0))
      have f192 := (f126.keep Kq134)
      have f193 := ((A103.keep Kq125).keep Kq134)
      have f194 := (gA125.keep Kq134 (ninS (Ne.symm net125_b95) nin0))
      obtain ⟨T182, h182, X182, e182, E182, A182, D182, -, st182⟩ := newO X134 hx hZ hown (wd hw 13 rfl) (wd hw 14 rfl) (wd hw 15 rfl) rfl (g := (mkF m 579 #[lv p1, .second, lv p2, .second, lv p3, .second, lv p4, .second, iv p5, iv p6, rv b1, iv z1, iv z2, iv oi, iv oj, iv ch0, iv ch1, iv ch2, iv zB, iv 0, iv 3, rv b17, iv z1, rv b82, lv p1, .second, lv p2, .second, lv p3, .second, lv p4, .second, rv (own_o w oi), rv b95, iv 1, .unset] [])) rfl (hb hby at_579) (by decide) (by decide)
      obtain ⟨b182, g182⟩ : ∃ z, z = T134.heap.size := ⟨_, rfl⟩
      rw [← g182] at A182 D182 st182
      have ne182__w_0_ : (w 0) ≠ b182 := Nat.ne_of_lt (Nat.lt_of_lt_of_le f183.lt (Nat.le_of_eq g182.symm))
      have ne182__w_1_ : (w 1) ≠ b182 := Nat.ne_of_lt (Nat.lt_of_lt_of_le f184.lt (Nat.le_of_eq g182.symm))
      have ne182__w_2_ : (w 2) ≠ b182 := Nat.ne_of_lt (Nat.lt_of_lt_of_le f185.lt (Nat.le_of_eq g182.symm))
      have ne182_b1 : b1 ≠ b182 := Nat.ne_of_lt (Nat.lt_of_lt_of_le f186.lt (Nat.le_of_eq g182.symm))
      have ne182_b17 : b17 ≠ b182 := Nat.ne_of_lt (Nat.lt_of_lt_of_le f187.lt (Nat.le_of_eq g182.symm))
      have ne182_b21 : b21 ≠ b182 := Nat.ne_of_lt (Nat.lt_of_lt_of_le f188.lt (Nat.le_of_eq g182.symm))
      have ne182_b26 : b26 ≠ b182 := Nat.ne_of_lt (Nat.lt_of_lt_of_le f189.lt (Nat.le_of_eq g182.symm))
      have ne182_t44 : t44 ≠ b182 := Nat.ne_of_lt (Nat.lt_of_lt_of_le f190.lt (Nat.le_of_eq g182.symm))
      have ne182_b82 : b82 ≠ b182 := Nat.ne_of_lt (Nat.lt_of_lt_of_le f191.lt (Nat.le_of_eq g182.symm))
      have ne182_b95 : b95 ≠ b182 := Nat.ne_of_lt (Nat.lt_of_lt_of_le f192.lt (Nat.le_of_eq g182.symm))
      have ne182_b103 : b103 ≠ b182 := Nat.ne_of_lt (Nat.lt_of_lt_of_le f193.lt (Nat.le_of_eq g182.symm))
      have ne182_t125 : t125 ≠ b182 := Nat.ne_of_lt (Nat.lt_of_lt_of_le f194.lt (Nat.le_of_eq g182.symm))
      have g_b182 : n0 ≤ b182 := Nat.le_trans Z134 (Nat.le_of_eq g182.symm)
      have sz_b182 : h0.size ≤ b182 := Nat.le_trans K134.1 (Nat.le_of_eq g182.symm)
      have F182_coder : Fld Z h182 b182 "java/lang/String" "coder" "B" (.int 0) := D182 (Or.inr (wd hw 40 rfl)) (ty := .byte) (by decide)
      have F182_value : Fld Z h182 b182 "java/lang/String" "value" "[B" .null := D182 (Or.inr (wd hw 42 rfl)) (ty := (.array .byte)) (by decide)
      have K182 : Keep h0 h182 [] := Keep.ext K134 E182
      have Z182 : n0 ≤ h182.size := Nat.le_trans Z134 E182.1
      refine Goes.by st182 ?_
      refine Goes.by (fun _ kz => XS.dup X182.here hx rfl (hb hby at_582) rfl rfl (XS.iconst X182.here hx rfl (hb hby at_583) kz)) ?_
      have f196 := (f183.ext E182)
      have f197 := (f184.ext E182)
      have f198 := (f185.ext E182)
      have f199 := (f186.ext E182)
      have f200 := (f187.ext E182)
      have f201 := (f188.ext E182)
      have f202 := (f189.ext E182)
      have f203 := (f190.ext E182)
      have f204 := (f191.ext E182)
      have f205 := (f192.ext E182)
      have f206 := (f193.ext E182)
      have f207 := (f194.ext E182)
      obtain ⟨T195, h195, k195, X195, e195, E195, A195, st195⟩ := newP X182 hx hZ (wd hw 16 rfl) e182 (g := (mkF m 584 #[lv p1, .second, lv p2, .second, lv p3, .second, lv p4, .second, iv p5, iv p6, rv b1, iv z1, iv z2, iv oi, iv oj, iv ch0, iv ch1, iv ch2, iv zB, iv 0, iv 3, rv b17, iv z1, rv b82, lv p1, .second, lv p2, .second, lv p3, .second, lv p4, .second, rv (own_o w oi), rv b95, iv 1, .unset] [(.int 1), (.ref b182), (.ref b182)])) rfl (hb hby at_584) rfl (by decide) (cap := 1) (by decide) (by decide) (by decide) (by decide)
      obtain ⟨b195, g195⟩ : ∃ z, z = h182.size := ⟨_, rfl⟩
      rw [← g195] at A195 st195
      have ne195__w_0_ : (w 0) ≠ b195 := Nat.ne_of_lt (Nat.lt_of_lt_of_le f196.lt (Nat.le_of_eq g195.symm))
      have ne195__w_1_ : (w 1) ≠ b195 := Nat.ne_of_lt (Nat.lt_of_lt_of_le f197.lt (Nat.le_of_eq g195.symm))
      have ne195__w_2_ : (w 2) ≠ b195 := Nat.ne_of_lt (Nat.lt_of_lt_of_le f198.lt (Nat.le_of_eq g195.symm))
      have ne195_b1 : b1 ≠ b195 := Nat.ne_of_lt (Nat.lt_of_lt_of_le f199.lt (Nat.le_of_eq g195.symm))
      have ne195_b17 : b17 ≠ b195 := Nat.ne_of_lt (Nat.lt_of_lt_of_le f200.lt (Nat.le_of_eq g195.symm))
      have ne195_b21 : b21 ≠ b195 := Nat.ne_of_lt (Nat.lt_of_lt_of_le f201.lt (Nat.le_of_eq g195.symm))
      have ne195_b26 : b26 ≠ b195 := Nat.ne_of_lt (Nat.lt_of_lt_of_le f202.lt (Nat.le_of_eq g195.symm))
      have ne195_t44 : t44 ≠ b195 := Nat.ne_of_lt (Nat.lt_of_lt_of_le f203.lt (Nat.le_of_eq g195.symm))
      have ne195_b82 : b82 ≠ b195 := Nat.ne_of_lt (Nat.lt_of_lt_of_le f204.lt (Nat.le_of_eq g195.symm))
      have ne195_b95 : b95 ≠ b195 := Nat.ne_of_lt (Nat.lt_of_lt_of_le f205.lt (Nat.le_of_eq g195.symm))
      have ne195_b103 : b103 ≠ b195 := Nat.ne_of_lt (Nat.lt_of_lt_of_le f206.lt (Nat.le_of_eq g195.symm))
      have ne195_t125 : t125 ≠ b195 := Nat.ne_of_lt (Nat.lt_of_lt_of_le f207.lt (Nat.le_of_eq g195.symm))
      have ne195_b182 : b182 ≠ b195 := Nat.ne_of_lt (Nat.lt_of_lt_of_le A182.lt (Nat.le_of_eq g195.symm))
      have g_b195 : n0 ≤ b195 := Nat.le_trans Z182 (Nat.le_of_eq g195.symm)
      have sz_b195 : h0.size ≤ b195 := Nat.le_trans K182.1 (Nat.le_of_eq g195.symm)
      have V195 : Arv Z h195 b195 k195 .char (1 : Int32) [(.int 0)] (.int 0) := (Arv.new A195 (by decide)).pad (pad_rep [] (.int 0) 1)
      have K195 : Keep h0 h195 [] := Keep.ext K182 E195
      have Z195 : n0 ≤ h195.size := Nat.le_trans Z182 E195.1
      refine Goes.by st195 ?_
      refine Goes.by (fun _ kz => XS.dup X195.here hx rfl (hb hby at_586) rfl rfl (XS.iconst X195.here hx rfl (hb hby at_587) (XS.iload X195.here hx rfl (hb hby at_588) rfl kz))) ?_
      obtain ⟨cl208, Ar208, Cq208, Sz208, Nn208, Hh208, Gg208⟩ := id V195
      have hin208 : ¬ ((0 : Int32) < 0 ∨ cl208.slots.size ≤ ((0 : Int32)).toNatClampNeg) := inb_of Sz208 ⟨by decide, by decide⟩
      obtain ⟨T208, h208, X208, e208, W208, st208⟩ := stC X195 hx hZ e195 Ar208 (j := (0 : Int32)) hin208 (g := (mkF m 590 #[lv p1, .second, lv p2, .second, lv p3, .second, lv p4, .second, iv p5, iv p6, rv b1, iv z1, iv z2, iv oi, iv oj, iv ch0, iv ch1, iv ch2, iv zB, iv 0, iv 3, rv b17, iv z1, rv b82, lv p1, .second, lv p2, .second, lv p3, .second, lv p4, .second, rv (own_o w oi), rv b95, iv 1, .unset] [(.int ch0), (.int 0), (.ref b195), (.ref b195), (.ref b182), (.ref b182)])) rfl rfl (hb hby at_590)
      have V208 : Arv Z h208 b195 k195 .char (1 : Int32) [(.int (nar .char ch0))] (.int 0) := Arv.set Ar208 Cq208 Sz208 Nn208 Hh208 Gg208 (fits_nar_char _) W208 0 rfl (Nat.le_of_ble_eq_true rfl)
      rw [hn_ch0] at V208
      have K208 : Keep h0 h208 [] := Keep.wr K195 W208 (Or.inr sz_b195)
      have Z208 : n0 ≤ h208.size := Nat.le_trans Z195 (Keep.of_wr W208).1
      have N208 := Fr.snoc X208 N134 g_b195
      refine Goes.by st208 ?_
      show Goes p e below (T208.setTop (mkF m 591 #[lv p1, .second, lv p2, .second, lv p3, .second, lv p4, .second, iv p5, iv p6, rv b1, iv z1, iv z2, iv oi, iv oj, iv ch0, iv ch1, iv ch2, iv zB, iv 0, iv 3, rv b17, iv z1, rv b82, lv p1, .second, lv p2, .second, lv p3, .second, lv p4, .second, rv (own_o w oi), rv b95, iv 1, .unset] [(.ref b195), (.ref b182), (.ref b182)])) _
      have f209 := (Exa.wr W208 (A182.ext E195))
      have f210 := (Fld.other W208 (F182_value.ext E195) (Or.inl ne195_b182))
      have f211 := (Fld.other W208 (F182_coder.ext E195) (Or.inl ne195_b182))
      have f212 := (Sta.wr W208 (((own_staKeep (own_staKeep f114 Kq125 (allS (own_nsE A103) all0)) Kq134 (allS (own_nsE f126) all0)).ext E182).ext E195))
      have f213 := (Exa.wr W208 (f196.ext E195))
      have f214 := (Exa.wr W208 (f197.ext E195))
      have f215 := (Exa.wr W208 (f198.ext E195))
      have f216 := ((f199.ext E195).other W208 ne195_b1)
      have f217 := (Exa.wr W208 (f200.ext E195))
      have f218 := (Exa.wr W208 (f201.ext E195))
      have f219 := ((f202.ext E195).other W208 ne195_b26)
      have f220 := ((f203.ext E195).other W208 ne195_t44)
      have f221 := ((f204.ext E195).other W208 ne195_b82)
      have f222 := (Exa.wr W208 (f205.ext E195))
      have f223 := (Exa.wr W208 (f206.ext E195))
      have f224 := ((f207.ext E195).other W208 ne195_t125)
      have hp225 : ∀ c ∈ ([ch0] : List Int32), ¬ c < 0 ∧ ¬ (255 : Int32) < c := by
        intro c hc; simp only [List.mem_cons, List.not_mem_nil, or_false] at hc
        rw [hc]; exact hb_ch0
      have hcd225 : StrChars.Road.CodA ([ch0] : List Int32) 0 (1 : Int32) ((([ch0] : List Int32).map (fun c => c.toInt8.toInt32)).map Value.int) := StrChars.Road.codOf (n := 1) rfl (fun c hc => (hp225 c hc).2)
      have hbd225 := own_up _ hp225
      obtain ⟨_, _, ⟨T226, L226, k226, n226⟩, -, X226, ⟨Lc226, hQ226, l226, y226, z226⟩, st226⟩ := X208.specialBack hx (y := (⟨"java/lang/String", "<init>", "([C)V"⟩ : MethodName)) rfl hown (mvT hZ (wd hw 17 rfl)) (mvT hZ (wd hw 18 rfl)) (mvT hZ (wd hw 19 rfl)) (by decide) (StrChars.Road.backV (W := 1) hZ hws (kI := 4) (wd hw 14 rfl) (cs := ([ch0] : List Int32)) (bs := (([ch0] : List Int32).map (fun c => c.toInt8.toInt32))) (n := 1) g_b182 Z208 f209 f210 f211 V208 f212 hzc rfl rfl (by decide) (by decide) hp225 rfl (by decide) (by decide)) (g := (mkF m 591 #[lv p1, .second, lv p2, .second, lv p3, .second, lv p4, .second, iv p5, iv p6, rv b1, iv z1, iv z2, iv oi, iv oj, iv ch0, iv ch1, iv ch2, iv zB, iv 0, iv 3, rv b17, iv z1, rv b82, lv p1, .second, lv p2, .second, lv p3, .second, lv p4, .second, rv (own_o w oi), rv b95, iv 1, .unset] [(.ref b195), (.ref b182), (.ref b182)])) rfl (by rw [hml]; rfl) (Steps.refl _) (a := b182) (argsL := [(.ref b195)]) (rest := [(.ref b182)]) (lenOf pd0 rfl) rfl (by show 2 * 0 + _ ≤ _; exact Nat.le_of_eq rfl) (hb hby at_591) (fun _ _ => ⟨rfl, e208, (by decide : 11 + 1 ≤ _), (by decide : 38 + 1 ≤ _)⟩)
      dsimp only [Pt.U, Pt.locs, Pt.cells, Pt.slots] at X226 l226 y226 z226 st226 hQ226
      subst l226 y226 z226
      obtain ⟨rfl, Nq226, Kq226, gE226, gC226, t226, kb226, u1_226, u2_226, u3_226, gV226, gA226⟩ := hQ226
      have K226 : Keep h0 T226.heap [] := Keep.trans K208 Kq226 (allS (Or.inr sz_b182) all0)
      have Z226 : n0 ≤ T226.heap.size := Nat.le_trans Z208 Kq226.1
      have net226__w_0_ : (w 0) ≠ t226 := Nat.ne_of_lt (Nat.lt_of_lt_of_le f213.lt u2_226)
      have net226__w_1_ : (w 1) ≠ t226 := Nat.ne_of_lt (Nat.lt_of_lt_of_le f214.lt u2_226)
      have net226__w_2_ : (w 2) ≠ t226 := Nat.ne_of_lt (Nat.lt_of_lt_of_le f215.lt u2_226)
      have net226_b1 : b1 ≠ t226 := Nat.ne_of_lt (Nat.lt_of_lt_of_le f216.lt u2_226)
      have net226_b17 : b17 ≠ t226 := Nat.ne_of_lt (Nat.lt_of_lt_of_le f217.lt u2_226)
      have net226_b21 : b21 ≠ t226 := Nat.ne_of_lt (Nat.lt_of_lt_of_le f218.lt u2_226)
      have net226_b26 : b26 ≠ t226 := Nat.ne_of_lt (Nat.lt_of_lt_of_le f219.lt u2_226)
      have net226_t44 : t44 ≠ t226 := Nat.ne_of_lt (Nat.lt_of_lt_of_le f220.lt u2_226)
      have net226_b82 : b82 ≠ t226 := Nat.ne_of_lt (Nat.lt_of_lt_of_le f221.lt u2_226)
      have net226_b95 : b95 ≠ t226 := Nat.ne_of_lt (Nat.lt_of_lt_of_le f222.lt u2_226)
      have net226_b103 : b103 ≠ t226 := Nat.ne_of_lt (Nat.lt_of_lt_of_le f223.lt u2_226)
      have net226_t125 : t125 ≠ t226 := Nat.ne_of_lt (Nat.lt_of_lt_of_le f224.lt u2_226)
      have net226_b182 : b182 ≠ t226 := Nat.ne_of_lt (Nat.lt_of_lt_of_le f209.lt u2_226)
      have net226_b195 : b195 ≠ t226 := Nat.ne_of_lt (Nat.lt_of_lt_of_le V208.lt u2_226)
      have g_t226 : n0 ≤ t226 := Nat.le_trans Z208 u2_226
      have sz_t226 : h0.size ≤ t226 := Nat.le_trans K208.1 u2_226
      have N226 := Fr.app N208 Nq226
      refine Goes.tr st226 ?_
      refine Goes.by (fun _ kz => XS.astore X226.here hx rfl (hb hby at_594) rfl rfl rfl (XS.aload X226.here hx rfl (hb hby at_596) rfl rfl (XS.aload X226.here hx rfl (hb hby at_598) rfl rfl kz))) ?_
      have f228 := (f209.keep Kq226)
      have f230 := (f217.keep Kq226)
      obtain ⟨cq229, kq229, q229a, q229b, q229c⟩ := isOf hZ rfl f230
      obtain ⟨_, _, ⟨T229, L229, k229, n229⟩, -, X229, ⟨Lc229, hQ229, l229, y229, z229⟩, st229⟩ := X226.virtualBack hx (y := (⟨"com/example/killdeer/killdeer/GadgetView", "equals", "(Ljava/lang/Object;)Z"⟩ : MethodName)) (z := (⟨"com/example/killdeer/killdeer/GadgetView", "equals", "(Ljava/lang/Object;)Z"⟩ : MethodName)) hown (mvT hZ (wd hw 61 rfl)) (mvT hZ (wd hw 62 rfl)) (notFace_of_selects (args := #[]) (mvT hZ (wd hw 64 rfl))) (mvT hZ (wd hw 64 rfl)) (mvT hZ (wd hw 63 rfl)) (by decide) (backOf (W := 0) (r8_str l Z a0 hw [] T226.heap n0 Z226 b17 b182 f228 ne182_b17) hZ (wd hw 65 rfl) (wd hw 12 rfl) (by decide) (by decide)) q229a q229c (g := (mkF m 600 #[lv p1, .second, lv p2, .second, lv p3, .second, lv p4, .second, iv p5, iv p6, rv b1, iv z1, iv z2, iv oi, iv oj, iv ch0, iv ch1, iv ch2, iv zB, iv 0, iv 3, rv b17, iv z1, rv b82, lv p1, .second, lv p2, .second, lv p3, .second, lv p4, .second, rv (own_o w oi), rv b95, iv 1, rv b182] [(.ref b182), (.ref b17)])) rfl (by rw [hml]; rfl) (Steps.refl _) (argsL := [(.ref b182)]) (rest := []) (lenOf pd2 rfl) rfl (by show 2 * 0 + _ ≤ _; exact Nat.le_of_eq rfl) (hb hby at_600) (fun _ _ => ⟨rfl, rfl, (by decide : 12 + 0 ≤ _), (by decide : 39 + 0 ≤ _)⟩)
      dsimp only [Pt.U, Pt.locs, Pt.cells, Pt.slots] at X229 l229 y229 z229 st229 hQ229
      subst l229 y229 z229
      obtain ⟨rfl, Nq229, e229⟩ := hQ229
      have N229 := Fr.app N226 Nq229
      refine Goes.tr st229 ?_
      refine Goes.by (fun _ kz => XS.ifNo X229.here hx rfl (hb hby at_603) rfl ((if0 _ _).trans (teq (by decide : (0 : Int32) = (0 : Int32))).2) (XS.iconst X229.here hx rfl (hb hby at_606) (XS.goto X229.here hx rfl (pc0 := 607) (pc' := 611) rfl (hb hby at_607) (by decide) (by decide) kz))) ?_
      show Goes p e below (T229.setTop (mkF m 611 #[lv p1, .second, lv p2, .second, lv p3, .second, lv p4, .second, iv p5, iv p6, rv b1, iv z1, iv z2, iv oi, iv oj, iv ch0, iv ch1, iv ch2, iv zB, iv 0, iv 3, rv b17, iv z1, rv b82, lv p1, .second, lv p2, .second, lv p3, .second, lv p4, .second, rv (own_o w oi), rv b95, iv 1, rv b182] [(.int 1)])) _
      obtain ⟨fs, hr, hrun, hended, hW, hsame⟩ := X229.leave (v := some (.int 1)) (fun h => by rw [Bd.returns] at h; cases h)
      exact ⟨_, _, retN X229 hx (t := .boolean) Bd.returns (by simp) (hb hby at_611) hr, hrun, hended, _, _, rfl, ⟨rfl, N229⟩, ⟨_, rfl⟩, hW, hsame.mono (by decide) (by decide)⟩
  · show Goes p e below (T81.setTop (mkF m 186 #[lv p1, .second, lv p2, .second, lv p3, .second, lv p4, .second, iv p5, iv p6, rv b1, iv z1, iv z2, iv oi, iv oj, iv ch0, iv ch1, iv ch2, iv zB, iv 1, iv (((p6.toUInt32 >>> ((4 : Int32) &&& 31).toUInt32).toInt32) &&& (3 : Int32)), rv b17, .unset, .unset, .unset, .unset, .unset, .unset, .unset, .unset, .unset, .unset, .unset, .unset, .unset, .unset] [])) _
    refine Goes.by (fun _ kz => XS.iload X81.here hx rfl (hb hby at_186) rfl (XS.iconst X81.here hx rfl (hb hby at_188) (XS.icmpNo X81.here hx rfl (hb hby at_189) rfl (teq (by decide : (1 : Int32) = (1 : Int32))).2 kz))) ?_
    show Goes p e below (T81.setTop (mkF m 192 #[lv p1, .second, lv p2, .second, lv p3, .second, lv p4, .second, iv p5, iv p6, rv b1, iv z1, iv z2, iv oi, iv oj, iv ch0, iv ch1, iv ch2, iv zB, iv 1, iv (((p6.toUInt32 >>> ((4 : Int32) &&& 31).toUInt32).toInt32) &&& (3 : Int32)), rv b17, .unset, .unset, .unset, .unset, .unset, .unset, .unset, .unset, .unset, .unset, .unset, .unset, .unset, .unset] [])) _
    refine Goes.by (fun _ kz => XS.iload X81.here hx rfl (hb hby at_192) rfl (XS.goto X81.here hx rfl (pc0 := 194) (pc' := 199) rfl (hb hby at_194) (by decide) (by decide) (XS.istore X81.here hx rfl (hb hby at_199) rfl rfl kz))) ?_
    show Goes p e below (T81.setTop (mkF m 201 #[lv p1, .second, lv p2, .second, lv p3, .second, lv p4, .second, iv p5, iv p6, rv b1, iv z1, iv z2, iv oi, iv oj, iv ch0, iv ch1, iv ch2, iv zB, iv 1, iv (((p6.toUInt32 >>> ((4 : Int32) &&& 31).toUInt32).toInt32) &&& (3 : Int32)), rv b17, iv z2, .unset, .unset, .unset, .unset, .unset, .unset, .unset, .unset, .unset, .unset, .unset, .unset, .unset] [])) _
    refine Goes.by (fun _ kz => XS.iload X81.here hx rfl (hb hby at_201) rfl (XS.iconst X81.here hx rfl (hb hby at_203) (XS.icmpYes X81.here hx rfl (pc0 := 204) (pc' := 243) rfl (hb hby at_204) rfl (feq (by decide : ¬ ((1 : Int32) = (2 : Int32)))).2 (by decide) (by decide) kz))) ?_
    show Goes p e below (T81.setTop (mkF m 243 #[lv p1, .second, lv p2, .second, lv p3, .second, lv p4, .second, iv p5, iv p6, rv b1, iv z1, iv z2, iv oi, iv oj, iv ch0, iv ch1, iv ch2, iv zB, iv 1, iv (((p6.toUInt32 >>> ((4 : Int32) &&& 31).toUInt32).toInt32) &&& (3 : Int32)), rv b17, iv z2, .unset, .unset, .unset, .unset, .unset, .unset, .unset, .unset, .unset, .unset, .unset, .unset, .unset] [])) _
    refine Goes.by (fun _ kz => XS.iconst X81.here hx rfl (hb hby at_243) kz) ?_
    have f232 := ((f38.keep Kq44).keep Kq81)
    have f233 := ((f39.keep Kq44).keep Kq81)
    have f234 := ((f40.keep Kq44).keep Kq81)
    have f235 := (f46.keep Kq81 (ninS ne17_b1 nin0))
    have f236 := (f73.keep Kq81)
    have f237 := ((f34.keep Kq44).keep Kq81)
    have f238 := ((V33.keep Kq44 (ninS (Ne.symm ne26_b21) nin0)).keep Kq81 (ninS (Ne.symm ne26_b17) nin0))
    have f239 := (gA44.keep Kq81 (ninS (Ne.symm net44_b17) nin0))
    obtain ⟨T231, h231, k231, X231, e231, E231, A231, st231⟩ := newP X81 hx hZ (wd hw 16 rfl) rfl (g := (mkF m 244 #[lv p1, .second, lv p2, .second, lv p3, .second, lv p4, .second, iv p5, iv p6, rv b1, iv z1, iv z2, iv oi, iv oj, iv ch0, iv ch1, iv ch2, iv zB, iv 1, iv (((p6.toUInt32 >>> ((4 : Int32) &&& 31).toUInt32).toInt32) &&& (3 : Int32)), rv b17, iv z2, .unset, .unset, .unset, .unset, .unset, .unset, .unset, .unset, .unset, .unset, .unset, .unset, .unset] [(.int 2)])) rfl (hb hby at_244) rfl (by decide) (cap := 2) (by decide) (by decide) (by decide) (by decide)
    obtain ⟨b231, g231⟩ : ∃ z, z = T81.heap.size := ⟨_, rfl⟩
    rw [← g231] at A231 st231
    have ne231__w_0_ : (w 0) ≠ b231 := Nat.ne_of_lt (Nat.lt_of_lt_of_le f232.lt (Nat.le_of_eq g231.symm))
    have ne231__w_1_ : (w 1) ≠ b231 := Nat.ne_of_lt (Nat.lt_of_lt_of_le f233.lt (Nat.le_of_eq g231.symm))
    have ne231__w_2_ : (w 2) ≠ b231 := Nat.ne_of_lt (Nat.lt_of_lt_of_le f234.lt (Nat.le_of_eq g231.symm))
    have ne231_b1 : b1 ≠ b231 := Nat.ne_of_lt (Nat.lt_of_lt_of_le f235.lt (Nat.le_of_eq g231.symm))
    have ne231_b17 : b17 ≠ b231 := Nat.ne_of_lt (Nat.lt_of_lt_of_le f236.lt (Nat.le_of_eq g231.symm))
    have ne231_b21 : b21 ≠ b231 := Nat.ne_of_lt (Nat.lt_of_lt_of_le f237.lt (Nat.le_of_eq g231.symm))
    have ne231_b26 : b26 ≠ b231 := Nat.ne_of_lt (Nat.lt_of_lt_of_le f238.lt (Nat.le_of_eq g231.symm))
    have ne231_t44 : t44 ≠ b231 := Nat.ne_of_lt (Nat.lt_of_lt_of_le f239.lt (Nat.le_of_eq g231.symm))
    have g_b231 : n0 ≤ b231 := Nat.le_trans Z81 (Nat.le_of_eq g231.symm)
    have sz_b231 : h0.size ≤ b231 := Nat.le_trans K81.1 (Nat.le_of_eq g231.symm)
    have V231 : Arv Z h231 b231 k231 .char (2 : Int32) [(.int 0), (.int 0)] (.int 0) := (Arv.new A231 (by decide)).pad (pad_rep [] (.int 0) 2)
    have K231 : Keep h0 h231 [] := Keep.ext K81 E231
    have Z231 : n0 ≤ h231.size := Nat.le_trans Z81 E231.1
    refine Goes.by st231 ?_
    refine Goes.by (fun _ kz => XS.dup X231.here hx rfl (hb hby at_246) rfl rfl (XS.iconst X231.here hx rfl (hb hby at_247) (XS.iload X231.here hx rfl (hb hby at_248) rfl kz))) ?_
    obtain ⟨cl240, Ar240, Cq240, Sz240, Nn240, Hh240, Gg240⟩ := id V231
    have hin240 : ¬ ((0 : Int32) < 0 ∨ cl240.slots.size ≤ ((0 : Int32)).toNatClampNeg) := inb_of Sz240 ⟨by decide, by decide⟩
    obtain ⟨T240, h240, X240, e240, W240, st240⟩ := stC X231 hx hZ e231 Ar240 (j := (0 : Int32)) hin240 (g := (mkF m 250 #[lv p1, .second, lv p2, .second, lv p3, .second, lv p4, .second, iv p5, iv p6, rv b1, iv z1, iv z2, iv oi, iv oj, iv ch0, iv ch1, iv ch2, iv zB, iv 1, iv (((p6.toUInt32 >>> ((4 : Int32) &&& 31).toUInt32).toInt32) &&& (3 : Int32)), rv b17, iv z2, .unset, .unset, .unset, .unset, .unset, .unset, .unset, .unset, .unset, .unset, .unset, .unset, .unset] [(.int ch0), (.int 0), (.ref b231), (.ref b231)])) rfl rfl (hb hby at_250)
    have V240 : Arv Z h240 b231 k231 .char (2 : Int32) [(.int (nar .char ch0)), (.int 0)] (.int 0) := Arv.set Ar240 Cq240 Sz240 Nn240 Hh240 Gg240 (fits_nar_char _) W240 0 rfl (Nat.le_of_ble_eq_true rfl)
    rw [hn_ch0] at V240
    have K240 : Keep h0 h240 [] := Keep.wr K231 W240 (Or.inr sz_b231)
    have Z240 : n0 ≤ h240.size := Nat.le_trans Z231 (Keep.of_wr W240).1
    have N240 := Fr.snoc X240 N81 g_b231
    refine Goes.by st240 ?_
    refine Goes.by (fun _ kz => XS.dup X240.here hx rfl (hb hby at_251) rfl rfl (XS.iconst X240.here hx rfl (hb hby at_252) (XS.iload X240.here hx rfl (hb hby at_253) rfl kz))) ?_
    obtain ⟨cl241, Ar241, Cq241, Sz241, Nn241, Hh241, Gg241⟩ := id V240
    have hin241 : ¬ ((1 : Int32) < 0 ∨ cl241.slots.size ≤ ((1 : Int32)).toNatClampNeg) := inb_of Sz241 ⟨by decide, by decide⟩
    obtain ⟨T241, h241, X241, e241, W241, st241⟩ := stC X240 hx hZ e240 Ar241 (j := (1 : Int32)) hin241 (g := (mkF m 255 #[lv p1, .second, lv p2, .second, lv p3, .second, lv p4, .second, iv p5, iv p6, rv b1, iv z1, iv z2, iv oi, iv oj, iv ch0, iv ch1, iv ch2, iv zB, iv 1, iv (((p6.toUInt32 >>> ((4 : Int32) &&& 31).toUInt32).toInt32) &&& (3 : Int32)), rv b17, iv z2, .unset, .unset, .unset, .unset, .unset, .unset, .unset, .unset, .unset, .unset, .unset, .unset, .unset] [(.int ch1), (.int 1), (.ref b231), (.ref b231)])) rfl rfl (hb hby at_255)
    have V241 : Arv Z h241 b231 k231 .char (2 : Int32) [(.int ch0), (.int (nar .char ch1))] (.int 0) := Arv.set Ar241 Cq241 Sz241 Nn241 Hh241 Gg241 (fits_nar_char _) W241 1 rfl (Nat.le_of_ble_eq_true rfl)
    rw [hn_ch1] at V241
    have K241 : Keep h0 h241 [] := Keep.wr K240 W241 (Or.inr sz_b231)
    have Z241 : n0 ≤ h241.size := Nat.le_trans Z240 (Keep.of_wr W241).1
    have N241 := Fr.snoc X241 N240 g_b231
    refine Goes.by st241 ?_
    refine Goes.by (fun _ kz => XS.astore X241.here hx rfl (hb hby at_256) rfl rfl rfl (XS.iload X241.here hx rfl (hb hby at_258) rfl (XS.iconst X241.here hx rfl (hb hby at_260) kz))) ?_
    show Goes p e below (T241.setTop (mkF m 261 #[lv p1, .second, lv p2, .second, lv p3, .second, lv p4, .second, iv p5, iv p6, rv b1, iv z1, iv z2, iv oi, iv oj, iv ch0, iv ch1, iv ch2, iv zB, iv 1, iv (((p6.toUInt32 >>> ((4 : Int32) &&& 31).toUInt32).toInt32) &&& (3 : Int32)), rv b17, iv z2, rv b231, .unset, .unset, .unset, .unset, .unset, .unset, .unset, .unset, .unset, .unset, .unset, .unset] [(.int 3), (.int 1)])) _
    refine Goes.by (fun _ kz => XS.icmpYes X241.here hx rfl (pc0 := 261) (pc' := 269) rfl (hb hby at_261) rfl (feq (by decide : ¬ ((1 : Int32) = (3 : Int32)))).2 (by decide) (by decide) (XS.lloadN X241.here hx rfl (hb hby at_269) rfl (XS.lstore X241.here hx rfl (hb hby at_270) rfl rfl kz))) ?_
    show Goes p e below (T241.setTop (mkF m 272 #[lv p1, .second, lv p2, .second, lv p3, .second, lv p4, .second, iv p5, iv p6, rv b1, iv z1, iv z2, iv oi, iv oj, iv ch0, iv ch1, iv ch2, iv zB, iv 1, iv (((p6.toUInt32 >>> ((4 : Int32) &&& 31).toUInt32).toInt32) &&& (3 : Int32)), rv b17, iv z2, rv b231, lv p1, .second, .unset, .unset, .unset, .unset, .unset, .unset, .unset, .unset, .unset, .unset] [])) _
    refine Goes.by (fun _ kz => XS.iload X241.here hx rfl (hb hby at_272) rfl (XS.iconst X241.here hx rfl (hb hby at_274) (XS.icmpYes X241.here hx rfl (pc0 := 275) (pc' := 283) rfl (hb hby at_275) rfl (feq (by decide : ¬ ((1 : Int32) = (4 : Int32)))).2 (by decide) (by decide) kz))) ?_
    show Goes p e below (T241.setTop (mkF m 283 #[lv p1, .second, lv p2, .second, lv p3, .second, lv p4, .second, iv p5, iv p6, rv b1, iv z1, iv z2, iv oi, iv oj, iv ch0, iv ch1, iv ch2, iv zB, iv 1, iv (((p6.toUInt32 >>> ((4 : Int32) &&& 31).toUInt32).toInt32) &&& (3 : Int32)), rv b17, iv z2, rv b231, lv p1, .second, .unset, .unset, .unset, .unset, .unset, .unset, .unset, .unset, .unset, .unset] [])) _
    refine Goes.by (fun _ kz => XS.lloadN X241.here hx rfl (hb hby at_283) rfl (XS.lstore X241.here hx rfl (hb hby at_284) rfl rfl (XS.iload X241.here hx rfl (hb hby at_286) rfl kz))) ?_
    show Goes p e below (T241.setTop (mkF m 288 #[lv p1, .second, lv p2, .second, lv p3, .second, lv p4, .second, iv p5, iv p6, rv b1, iv z1, iv z2, iv oi, iv oj, iv ch0, iv ch1, iv ch2, iv zB, iv 1, iv (((p6.toUInt32 >>> ((4 : Int32) &&& 31).toUInt32).toInt32) &&& (3 : Int32)), rv b17, iv z2, rv b231, lv p1, .second, lv p2, .second, .unset, .unset, .unset, .unset, .unset, .unset, .unset, .unset] [(.int 1)])) _
    refine Goes.by (fun _ kz => XS.iconst X241.here hx rfl (hb hby at_288) (XS.icmpYes X241.here hx rfl (pc0 := 289) (pc' := 297) rfl (hb hby at_289) rfl (feq (by decide : ¬ ((1 : Int32) = (5 : Int32)))).2 (by decide) (by decide) (XS.lload X241.here hx rfl (hb hby at_297) rfl kz))) ?_
    show Goes p e below (T241.setTop (mkF m 299 #[lv p1, .second, lv p2, .second, lv p3, .second, lv p4, .second, iv p5, iv p6, rv b1, iv z1, iv z2, iv oi, iv oj, iv ch0, iv ch1, iv ch2, iv zB, iv 1, iv (((p6.toUInt32 >>> ((4 : Int32) &&& 31).toUInt32).toInt32) &&& (3 : Int32)), rv b17, iv z2, rv b231, lv p1, .second, lv p2, .second, .unset, .unset, .unset, .unset, .unset, .unset, .unset, .unset] [(.long p3)])) _
    refine Goes.by (fun _ kz => XS.lstore X241.here hx rfl (hb hby at_299) rfl rfl (XS.iload X241.here hx rfl (hb hby at_301) rfl (XS.bipush X241.here hx rfl (hb hby at_303) kz))) ?_
    show Goes p e below (T241.setTop (mkF m 305 #[lv p1, .second, lv p2, .second, lv p3, .second, lv p4, .second, iv p5, iv p6, rv b1, iv z1, iv z2, iv oi, iv oj, iv ch0, iv ch1, iv ch2, iv zB, iv 1, iv (((p6.toUInt32 >>> ((4 : Int32) &&& 31).toUInt32).toInt32) &&& (3 : Int32)), rv b17, iv z2, rv b231, lv p1, .second, lv p2, .second, lv p3, .second, .unset, .unset, .unset, .unset, .unset, .unset] [(.int 6), (.int 1)])) _
    refine Goes.by (fun _ kz => XS.icmpYes X241.here hx rfl (pc0 := 305) (pc' := 312) rfl (hb hby at_305) rfl (feq (by decide : ¬ ((1 : Int32) = (6 : Int32)))).2 (by decide) (by decide) (XS.lload X241.here hx rfl (hb hby at_312) rfl (XS.lstore X241.here hx rfl (hb hby at_314) rfl rfl kz))) ?_
    show Goes p e below (T241.setTop (mkF m 316 #[lv p1, .second, lv p2, .second, lv p3, .second, lv p4, .second, iv p5, iv p6, rv b1, iv z1, iv z2, iv oi, iv oj, iv ch0, iv ch1, iv ch2, iv zB, iv 1, iv (((p6.toUInt32 >>> ((4 : Int32) &&& 31).toUInt32).toInt32) &&& (3 : Int32)), rv b17, iv z2, rv b231, lv p1, .second, lv p2, .second, lv p3, .second, lv p4, .second, .unset, .unset, .unset, .unset] [])) _
    refine Goes.by (fun _ kz => XS.iload X241.here hx rfl (hb hby at_316) rfl (XS.bipush X241.here hx rfl (hb hby at_318) (XS.icmpYes X241.here hx rfl (pc0 := 320) (pc' := 331) rfl (hb hby at_320) rfl (feq (by decide : ¬ ((1 : Int32) = (7 : Int32)))).2 (by decide) (by decide) kz))) ?_
    show Goes p e below (T241.setTop (mkF m 331 #[lv p1, .second, lv p2, .second, lv p3, .second, lv p4, .second, iv p5, iv p6, rv b1, iv z1, iv z2, iv oi, iv oj, iv ch0, iv ch1, iv ch2, iv zB, iv 1, iv (((p6.toUInt32 >>> ((4 : Int32) &&& 31).toUInt32).toInt32) &&& (3 : Int32)), rv b17, iv z2, rv b231, lv p1, .second, lv p2, .second, lv p3, .second, lv p4, .second, .unset, .unset, .unset, .unset] [])) _
    refine Goes.by (fun _ kz => XS.aload X241.here hx rfl (hb hby at_331) rfl rfl (XS.iload X241.here hx rfl (hb hby at_333) rfl kz)) ?_
    show Goes p e below (T241.setTop (mkF m 335 #[lv p1, .second, lv p2, .second, lv p3, .second, lv p4, .second, iv p5, iv p6, rv b1, iv z1, iv z2, iv oi, iv oj, iv ch0, iv ch1, iv ch2, iv zB, iv 1, iv (((p6.toUInt32 >>> ((4 : Int32) &&& 31).toUInt32).toInt32) &&& (3 : Int32)), rv b17, iv z2, rv b231, lv p1, .second, lv p2, .second, lv p3, .second, lv p4, .second, .unset, .unset, .unset, .unset] [(.int oi), (.ref b1)])) _
    have f243 := (((f235.ext E231).other W240 ne231_b1).other W241 ne231_b1)
    obtain ⟨cl242, Ar242, Cq242, Sz242, Nn242, Hh242, Gg242⟩ := id f243
    have hin242 : ¬ (oi < 0 ∨ cl242.slots.size ≤ (oi).toNatClampNeg) := inb_of Sz242 (own_i3 h_oi)
    have hat242 : cl242.slots[(oi).toNatClampNeg]? = some (.ref (own_o w oi)) := Has.at Hh242 hin242 (by rcases h_oi with h | h | h <;> rw [h] <;> rfl)
    refine Goes.by (fun _ kz => X241.aaload hx (j := oi) (v := (.ref (own_o w oi))) (by rw [e241]; exact Ar242.1) (State.isArrayOf_alike hZ.alike Ar242.2.1) rfl Ar242.2.2 hin242 hat242 (g := (mkF m 335 #[lv p1, .second, lv p2, .second, lv p3, .second, lv p4, .second, iv p5, iv p6, rv b1, iv z1, iv z2, iv oi, iv oj, iv ch0, iv ch1, iv ch2, iv zB, iv 1, iv (((p6.toUInt32 >>> ((4 : Int32) &&& 31).toUInt32).toInt32) &&& (3 : Int32)), rv b17, iv z2, rv b231, lv p1, .second, lv p2, .second, lv p3, .second, lv p4, .second, .unset, .unset, .unset, .unset] [(.int oi), (.ref b1)])) rfl rfl (hb hby at_335) _ (XS.astore X241.here hx rfl (hb hby at_336) rfl rfl rfl kz)) ?_
    have f245 := (Exa.wr W241 (Exa.wr W240 (f232.ext E231)))
    have f246 := (Exa.wr W241 (Exa.wr W240 (f233.ext E231)))
    have f247 := (Exa.wr W241 (Exa.wr W240 (f234.ext E231)))
    have f248 := (Exa.wr W241 (Exa.wr W240 (f236.ext E231)))
    have f249 := (Exa.wr W241 (Exa.wr W240 (f237.ext E231)))
    have f250 := (((f238.ext E231).other W240 ne231_b26).other W241 ne231_b26)
    have f251 := (((f239.ext E231).other W240 ne231_t44).other W241 ne231_t44)
    obtain ⟨T244, h244, X244, e244, E244, A244, D244, -, st244⟩ := newO X241 hx hZ hown (wd hw 10 rfl) (wd hw 11 rfl) (wd hw 12 rfl) e241 (g := (mkF m 338 #[lv p1, .second, lv p2, .second, lv p3, .second, lv p4, .second, iv p5, iv p6, rv b1, iv z1, iv z2, iv oi, iv oj, iv ch0, iv ch1, iv ch2, iv zB, iv 1, iv (((p6.toUInt32 >>> ((4 : Int32) &&& 31).toUInt32).toInt32) &&& (3 : Int32)), rv b17, iv z2, rv b231, lv p1, .second, lv p2, .second, lv p3, .second, lv p4, .second, rv (own_o w oi), .unset, .unset, .unset] [])) rfl (hb hby at_338) (by decide) (by decide)
    obtain ⟨b244, g244⟩ : ∃ z, z = h241.size := ⟨_, rfl⟩
    rw [← g244] at A244 D244 st244
    have ne244__w_0_ : (w 0) ≠ b244 := Nat.ne_of_lt (Nat.lt_of_lt_of_le f245.lt (Nat.le_of_eq g244.symm))
    have ne244__w_1_ : (w 1) ≠ b244 := Nat.ne_of_lt (Nat.lt_of_lt_of_le f246.lt (Nat.le_of_eq g244.symm))
    have ne244__w_2_ : (w 2) ≠ b244 := Nat.ne_of_lt (Nat.lt_of_lt_of_le f247.lt (Nat.le_of_eq g244.symm))
    have ne244_b1 : b1 ≠ b244 := Nat.ne_of_lt (Nat.lt_of_lt_of_le f243.lt (Nat.le_of_eq g244.symm))
    have ne244_b17 : b17 ≠ b244 := Nat.ne_of_lt (Nat.lt_of_lt_of_le f248.lt (Nat.le_of_eq g244.symm))
    have ne244_b21 : b21 ≠ b244 := Nat.ne_of_lt (Nat.lt_of_lt_of_le f249.lt (Nat.le_of_eq g244.symm))
    have ne244_b26 : b26 ≠ b244 := Nat.ne_of_lt (Nat.lt_of_lt_of_le f250.lt (Nat.le_of_eq g244.symm))
    have ne244_t44 : t44 ≠ b244 := Nat.ne_of_lt (Nat.lt_of_lt_of_le f251.lt (Nat.le_of_eq g244.symm))
    have ne244_b231 : b231 ≠ b244 := Nat.ne_of_lt (Nat.lt_of_lt_of_le V241.lt (Nat.le_of_eq g244.symm))
    have g_b244 : n0 ≤ b244 := Nat.le_trans Z241 (Nat.le_of_eq g244.symm)
    have sz_b244 : h0.size ≤ b244 := Nat.le_trans K241.1 (Nat.le_of_eq g244.symm)
    have F244_visible : Fld Z h244 b244 "com/example/killdeer/killdeer/GadgetView" "visible" "Z" (.int 0) := D244 (Or.inr (wd hw 48 rfl)) (ty := .boolean) (by decide)
    have F244_appearance : Fld Z h244 b244 "com/example/killdeer/killdeer/GadgetView" "appearance" "Ljava/lang/String;" .null := D244 (Or.inr (wd hw 50 rfl)) (ty := (.object "java/lang/String")) (by decide)
    have F244_x : Fld Z h244 b244 "com/example/killdeer/killdeer/GadgetView" "x" "J" (.long 0) := D244 (Or.inr (wd hw 52 rfl)) (ty := .long) (by decide)
    have F244_y : Fld Z h244 b244 "com/example/killdeer/killdeer/GadgetView" "y" "J" (.long 0) := D244 (Or.inr (wd hw 54 rfl)) (ty := .long) (by decide)
    have F244_width : Fld Z h244 b244 "com/example/killdeer/killdeer/GadgetView" "width" "J" (.long 0) := D244 (Or.inr (wd hw 56 rfl)) (ty := .long) (by decide)
    have F244_height : Fld Z h244 b244 "com/example/killdeer/killdeer/GadgetView" "height" "J" (.long 0) := D244 (Or.inr (wd hw 58 rfl)) (ty := .long) (by decide)
    have F244_obscured : Fld Z h244 b244 "com/example/killdeer/killdeer/GadgetView" "obscured" "Lcom/example/killdeer/killdeer/GadgetView$Obscured;" .null := D244 (Or.inr (wd hw 60 rfl)) (ty := (.object "com/example/killdeer/killdeer/GadgetView$Obscured")) (by decide)
    have K244 : Keep h0 h244 [] := Keep.ext K241 E244
    have Z244 : n0 ≤ h244.size := Nat.le_trans Z241 E244.1
    refine Goes.by st244 ?_
    refine Goes.by (fun _ kz => XS.dup X244.here hx rfl (hb hby at_341) rfl rfl (XS.iload X244.here hx rfl (hb hby at_342) rfl kz)) ?_
    have f253 := (f245.ext E244)
    have f254 := (f246.ext E244)
    have f255 := (f247.ext E244)
    have f256 := (f243.ext E244)
    have f257 := (f248.ext E244)
    have f258 := (f249.ext E244)
    have f259 := (f250.ext E244)
    have f260 := (f251.ext E244)
    have f261 := (V241.ext E244)
    obtain ⟨T252, h252, X252, e252, E252, A252, D252, -, st252⟩ := newO X244 hx hZ hown (wd hw 13 rfl) (wd hw 14 rfl) (wd hw 15 rfl) e244 (g := (mkF m 344 #[lv p1, .second, lv p2, .second, lv p3, .second, lv p4, .second, iv p5, iv p6, rv b1, iv z1, iv z2, iv oi, iv oj, iv ch0, iv ch1, iv ch2, iv zB, iv 1, iv (((p6.toUInt32 >>> ((4 : Int32) &&& 31).toUInt32).toInt32) &&& (3 : Int32)), rv b17, iv z2, rv b231, lv p1, .second, lv p2, .second, lv p3, .second, lv p4, .second, rv (own_o w oi), .unset, .unset, .unset] [(.int z2), (.ref b244), (.ref b244)])) rfl (hb hby at_344) (by decide) (by decide)
    obtain ⟨b252, g252⟩ : ∃ z, z = h244.size := ⟨_, rfl⟩
    rw [← g252] at A252 D252 st252
    have ne252__w_0_ : (w 0) ≠ b252 := Nat.ne_of_lt (Nat.lt_of_lt_of_le f253.lt (Nat.le_of_eq g252.symm))
    have ne252__w_1_ : (w 1) ≠ b252 := Nat.ne_of_lt (Nat.lt_of_lt_of_le f254.lt (Nat.le_of_eq g252.symm))
    have ne252__w_2_ : (w 2) ≠ b252 := Nat.ne_of_lt (Nat.lt_of_lt_of_le f255.lt (Nat.le_of_eq g252.symm))
    have ne252_b1 : b1 ≠ b252 := Nat.ne_of_lt (Nat.lt_of_lt_of_le f256.lt (Nat.le_of_eq g252.symm))
    have ne252_b17 : b17 ≠ b252 := Nat.ne_of_lt (Nat.lt_of_lt_of_le f257.lt (Nat.le_of_eq g252.symm))
    have ne252_b21 : b21 ≠ b252 := Nat.ne_of_lt (Nat.lt_of_lt_of_le f258.lt (Nat.le_of_eq g252.symm))
    have ne252_b26 : b26 ≠ b252 := Nat.ne_of_lt (Nat.lt_of_lt_of_le f259.lt (Nat.le_of_eq g252.symm))
    have ne252_t44 : t44 ≠ b252 := Nat.ne_of_lt (Nat.lt_of_lt_of_le f260.lt (Nat.le_of_eq g252.symm))
    have ne252_b231 : b231 ≠ b252 := Nat.ne_of_lt (Nat.lt_of_lt_of_le f261.lt (Nat.le_of_eq g252.symm))
    have ne252_b244 : b244 ≠ b252 := Nat.ne_of_lt (Nat.lt_of_lt_of_le A244.lt (Nat.le_of_eq g252.symm))
    have g_b252 : n0 ≤ b252 := Nat.le_trans Z244 (Nat.le_of_eq g252.symm)
    have sz_b252 : h0.size ≤ b252 := Nat.le_trans K244.1 (Nat.le_of_eq g252.symm)
    have F252_coder : Fld Z h252 b252 "java/lang/String" "coder" "B" (.int 0) := D252 (Or.inr (wd hw 40 rfl)) (ty := .byte) (by decide)
    have F252_value : Fld Z h252 b252 "java/lang/String" "value" "[B" .null := D252 (Or.inr (wd hw 42 rfl)) (ty := (.array .byte)) (by decide)
    have K252 : Keep h0 h252 [] := Keep.ext K244 E252
    have Z252 : n0 ≤ h252.size := Nat.le_trans Z244 E252.1
    refine Goes.by st252 ?_
    refine Goes.by (fun _ kz => XS.dup X252.here hx rfl (hb hby at_347) rfl rfl (XS.aload X252.here hx rfl (hb hby at_348) rfl rfl kz)) ?_
    show Goes p e below (T252.setTop (mkF m 350 #[lv p1, .second, lv p2, .second, lv p3, .second, lv p4, .second, iv p5, iv p6, rv b1, iv z1, iv z2, iv oi, iv oj, iv ch0, iv ch1, iv ch2, iv zB, iv 1, iv (((p6.toUInt32 >>> ((4 : Int32) &&& 31).toUInt32).toInt32) &&& (3 : Int32)), rv b17, iv z2, rv b231, lv p1, .second, lv p2, .second, lv p3, .second, lv p4, .second, rv (own_o w oi), .unset, .unset, .unset] [(.ref b231), (.ref b252), (.ref b252), (.int z2), (.ref b244), (.ref b244)])) _
    have f262 := (f261.ext E252)
    have f263 := (((Sta.wr W241 (Sta.wr W240 ((own_staKeep (own_staKeep f37 Kq44 (allS (own_nsE f34) all0)) Kq81 (allS (own_nsE f73) all0)).ext E231))).ext E244).ext E252)
    have f264 := (f253.ext E252)
    have f265 := (f254.ext E252)
    have f266 := (f255.ext E252)
    have f267 := (f256.ext E252)
    have f268 := (f257.ext E252)
    have f269 := (f258.ext E252)
    have f270 := (f259.ext E252)
    have f271 := (f260.ext E252)
    have f272 := (A244.ext E252)
    have hp273 : ∀ c ∈ ([ch0, ch1] : List Int32), ¬ c < 0 ∧ ¬ (255 : Int32) < c := by
      intro c hc; simp only [List.mem_cons, List.not_mem_nil, or_false] at hc
      rcases hc with hc | hc
      · rw [hc]; exact hb_ch0
      · rw [hc]; exact hb_ch1
    have hcd273 : StrChars.Road.CodA ([ch0, ch1] : List Int32) 0 (2 : Int32) ((([ch0, ch1] : List Int32).map (fun c => c.toInt8.toInt32)).map Value.int) := StrChars.Road.codOf (n := 2) rfl (fun c hc => (hp273 c hc).2)
    have hbd273 := own_up _ hp273
    obtain ⟨_, _, ⟨T274, L274, k274, n274⟩, -, X274, ⟨Lc274, hQ274, l274, y274, z274⟩, st274⟩ := X252.specialBack hx (y := (⟨"java/lang/String", "<init>", "([C)V"⟩ : MethodName)) rfl hown (mvT hZ (wd hw 17 rfl)) (mvT hZ (wd hw 18 rfl)) (mvT hZ (wd hw 19 rfl)) (by decide) (StrChars.Road.backV (W := 4) hZ hws (kI := 4) (wd hw 14 rfl) (cs := ([ch0, ch1] : List Int32)) (bs := (([ch0, ch1] : List Int32).map (fun c => c.toInt8.toInt32))) (n := 2) g_b252 Z252 A252 F252_value F252_coder f262 f263 hzc rfl rfl (by decide) (by decide) hp273 rfl (by decide) (by decide)) (g := (mkF m 350 #[lv p1, .second, lv p2, .second, lv p3, .second, lv p4, .second, iv p5, iv p6, rv b1, iv z1, iv z2, iv oi, iv oj, iv ch0, iv ch1, iv ch2, iv zB, iv 1, iv (((p6.toUInt32 >>> ((4 : Int32) &&& 31).toUInt32).toInt32) &&& (3 : Int32)), rv b17, iv z2, rv b231, lv p1, .second, lv p2, .second, lv p3, .second, lv p4, .second, rv (own_o w oi), .unset, .unset, .unset] [(.ref b231), (.ref b252), (.ref b252), (.int z2), (.ref b244), (.ref b244)])) rfl (by rw [hml]; rfl) (Steps.refl _) (a := b252) (argsL := [(.ref b231)]) (rest := [(.ref b252), (.int z2), (.ref b244), (.ref b244)]) (lenOf pd0 rfl) rfl (by show 2 * 0 + _ ≤ _; exact Nat.le_of_eq rfl) (hb hby at_350) (fun _ _ => ⟨rfl, e252, (by decide : 8 + 1 ≤ _), (by decide : 31 + 2 ≤ _)⟩)
    dsimp only [Pt.U, Pt.locs, Pt.cells, Pt.slots] at X274 l274 y274 z274 st274 hQ274
    subst l274 y274 z274
    obtain ⟨rfl, Nq274, Kq274, gE274, gC274, t274, kb274, u1_274, u2_274, u3_274, gV274, gA274⟩ := hQ274
    have K274 : Keep h0 T274.heap [] := Keep.trans K252 Kq274 (allS (Or.inr sz_b252) all0)
    have Z274 : n0 ≤ T274.heap.size := Nat.le_trans Z252 Kq274.1
    have net274__w_0_ : (w 0) ≠ t274 := Nat.ne_of_lt (Nat.lt_of_lt_of_le f264.lt u2_274)
    have net274__w_1_ : (w 1) ≠ t274 := Nat.ne_of_lt (Nat.lt_of_lt_of_le f265.lt u2_274)
    have net274__w_2_ : (w 2) ≠ t274 := Nat.ne_of_lt (Nat.lt_of_lt_of_le f266.lt u2_274)
    have net274_b1 : b1 ≠ t274 := Nat.ne_of_lt (Nat.lt_of_lt_of_le f267.lt u2_274)
    have net274_b17 : b17 ≠ t274 := Nat.ne_of_lt (Nat.lt_of_lt_of_le f268.lt u2_274)
    have net274_b21 : b21 ≠ t274 := Nat.ne_of_lt (Nat.lt_of_lt_of_le f269.lt u2_274)
    have net274_b26 : b26 ≠ t274 := Nat.ne_of_lt (Nat.lt_of_lt_of_le f270.lt u2_274)
    have net274_t44 : t44 ≠ t274 := Nat.ne_of_lt (Nat.lt_of_lt_of_le f271.lt u2_274)
    have net274_b231 : b231 ≠ t274 := Nat.ne_of_lt (Nat.lt_of_lt_of_le f262.lt u2_274)
    have net274_b244 : b244 ≠ t274 := Nat.ne_of_lt (Nat.lt_of_lt_of_le f272.lt u2_274)
    have net274_b252 : b252 ≠ t274 := Nat.ne_of_lt (Nat.lt_of_lt_of_le A252.lt u2_274)
    have g_t274 : n0 ≤ t274 := Nat.le_trans Z252 u2_274
    have sz_t274 : h0.size ≤ t274 := Nat.le_trans K252.1 u2_274
    have N274 := Fr.app N241 Nq274
    refine Goes.tr st274 ?_
    refine Goes.by (fun _ kz => XS.lload X274.here hx rfl (hb hby at_353) rfl (XS.lload X274.here hx rfl (hb hby at_355) rfl (XS.lload X274.here hx rfl (hb hby at_357) rfl kz))) ?_
    show Goes p e below (T274.setTop (mkF m 359 #[lv p1, .second, lv p2, .second, lv p3, .second, lv p4, .second, iv p5, iv p6, rv b1, iv z1, iv z2, iv oi, iv oj, iv ch0, iv ch1, iv ch2, iv zB, iv 1, iv (((p6.toUInt32 >>> ((4 : Int32) &&& 31).toUInt32).toInt32) &&& (3 : Int32)), rv b17, iv z2, rv b231, lv p1, .second, lv p2, .second, lv p3, .second, lv p4, .second, rv (own_o w oi), .unset, .unset, .unset] [(.long p3), (.long p2), (.long p1), (.ref b252), (.int z2), (.ref b244), (.ref b244)])) _
    refine Goes.by (fun _ kz => XS.lload X274.here hx rfl (hb hby at_359) rfl (XS.aload X274.here hx rfl (hb hby at_361) rfl rfl kz)) ?_
    have f275 := (f272.keep Kq274)
    have f276 := ((F244_visible.ext E252).keep Kq274 (ninS ne252_b244 nin0))
    have f277 := ((F244_appearance.ext E252).keep Kq274 (ninS ne252_b244 nin0))
    have f278 := ((F244_x.ext E252).keep Kq274 (ninS ne252_b244 nin0))
    have f279 := ((F244_y.ext E252).keep Kq274 (ninS ne252_b244 nin0))
    have f280 := ((F244_width.ext E252).keep Kq274 (ninS ne252_b244 nin0))
    have f281 := ((F244_height.ext E252).keep Kq274 (ninS ne252_b244 nin0))
    have f282 := ((F244_obscured.ext E252).keep Kq274 (ninS ne252_b244 nin0))
    obtain ⟨_, _, ⟨T283, L283, k283, n283⟩, -, X283, ⟨Lc283, hQ283, l283, y283, z283⟩, st283⟩ := X274.specialBack hx (y := (⟨"com/example/killdeer/killdeer/GadgetView", "<init>", "(ZLjava/lang/String;JJJJLcom/example/killdeer/killdeer/GadgetView$Obscured;)V"⟩ : MethodName)) rfl hown (mvT hZ (wd hw 43 rfl)) (mvT hZ (wd hw 44 rfl)) (mvT hZ (wd hw 45 rfl)) (by decide) (backOf (W := 1) (r7_0 l Z a0 hw [] T274.heap n0 Z274 b244 z2 b252 p1 p2 p3 p4 (own_o w oi) f275 f276 f277 f278 f279 f280 f281 f282 g_b244) hZ (wd hw 45 rfl) (wd hw 12 rfl) (by decide) (by decide)) (g := (mkF m 363 #[lv p1, .second, lv p2, .second, lv p3, .second, lv p4, .second, iv p5, iv p6, rv b1, iv z1, iv z2, iv oi, iv oj, iv ch0, iv ch1, iv ch2, iv zB, iv 1, iv (((p6.toUInt32 >>> ((4 : Int32) &&& 31).toUInt32).toInt32) &&& (3 : Int32)), rv b17, iv z2, rv b231, lv p1, .second, lv p2, .second, lv p3, .second, lv p4, .second, rv (own_o w oi), .unset, .unset, .unset] [(.ref (own_o w oi)), (.long p4), (.long p3), (.long p2), (.long p1), (.ref b252), (.int z2), (.ref b244), (.ref b244)])) rfl (by rw [hml]; rfl) (Steps.refl _) (a := b244) (argsL := [(.int z2), (.ref b252), (.long p1), (.long p2), (.long p3), (.long p4), (.ref (own_o w oi))]) (rest := [(.ref b244)]) (lenOf pd1 rfl) rfl (by show 2 * 0 + _ ≤ _; exact Nat.le_of_eq rfl) (hb hby at_363) (fun _ _ => ⟨rfl, rfl, (by decide : 9 + 0 ≤ _), (by decide : 33 + 0 ≤ _)⟩)
    dsimp only [Pt.U, Pt.locs, Pt.cells, Pt.slots] at X283 l283 y283 z283 st283 hQ283
    subst l283 y283 z283
    obtain ⟨rfl, Nq283, Kq283, fq283_0, fq283_1, fq283_2, fq283_3, fq283_4, fq283_5, fq283_6⟩ := hQ283
    have K283 : Keep h0 T283.heap [] := Keep.trans K274 Kq283 (allS (Or.inr sz_b244) all0)
    have Z283 : n0 ≤ T283.heap.size := Nat.le_trans Z274 Kq283.1
    have N283 := Fr.app N274 Nq283
    refine Goes.tr st283 ?_
    refine Goes.by (fun _ kz => XS.astore X283.here hx rfl (hb hby at_366) rfl rfl rfl (XS.iload X283.here hx rfl (hb hby at_368) rfl (XS.ifYes X283.here hx rfl (pc0 := 370) (pc' := 379) rfl (hb hby at_370) rfl ((if0 _ _).trans (feq (by decide : ¬ ((1 : Int32) = (0 : Int32)))).2) (by decide) (by decide) kz))) ?_
    show Goes p e below (T283.setTop (mkF m 379 #[lv p1, .second, lv p2, .second, lv p3, .second, lv p4, .second, iv p5, iv p6, rv b1, iv z1, iv z2, iv oi, iv oj, iv ch0, iv ch1, iv ch2, iv zB, iv 1, iv (((p6.toUInt32 >>> ((4 : Int32) &&& 31).toUInt32).toInt32) &&& (3 : Int32)), rv b17, iv z2, rv b231, lv p1, .second, lv p2, .second, lv p3, .second, lv p4, .second, rv (own_o w oi), rv b244, .unset, .unset] [])) _
    refine Goes.by (fun _ kz => XS.iload X283.here hx rfl (hb hby at_379) rfl (XS.iconst X283.here hx rfl (hb hby at_381) (XS.icmpNo X283.here hx rfl (hb hby at_382) rfl (teq (by decide : (1 : Int32) = (1 : Int32))).2 kz))) ?_
    show Goes p e below (T283.setTop (mkF m 385 #[lv p1, .second, lv p2, .second, lv p3, .second, lv p4, .second, iv p5, iv p6, rv b1, iv z1, iv z2, iv oi, iv oj, iv ch0, iv ch1, iv ch2, iv zB, iv 1, iv (((p6.toUInt32 >>> ((4 : Int32) &&& 31).toUInt32).toInt32) &&& (3 : Int32)), rv b17, iv z2, rv b231, lv p1, .second, lv p2, .second, lv p3, .second, lv p4, .second, rv (own_o w oi), rv b244, .unset, .unset] [])) _
    refine Goes.by (fun _ kz => XS.iload X283.here hx rfl (hb hby at_385) rfl (XS.iload X283.here hx rfl (hb hby at_387) rfl kz)) ?_
    show Goes p e below (T283.setTop (mkF m 389 #[lv p1, .second, lv p2, .second, lv p3, .second, lv p4, .second, iv p5, iv p6, rv b1, iv z1, iv z2, iv oi, iv oj, iv ch0, iv ch1, iv ch2, iv zB, iv 1, iv (((p6.toUInt32 >>> ((4 : Int32) &&& 31).toUInt32).toInt32) &&& (3 : Int32)), rv b17, iv z2, rv b231, lv p1, .second, lv p2, .second, lv p3, .second, lv p4, .second, rv (own_o w oi), rv b244, .unset, .unset] [(.int z2), (.int z1)])) _
    refine Goes.join (fun ze : Int32 => (ze = 1 ∧ z1 = z2) ∨ (ze = 0 ∧ ¬ z1 = z2)) (fun ze => T283.setTop (mkF m 397 #[lv p1, .second, lv p2, .second, lv p3, .second, lv p4, .second, iv p5, iv p6, rv b1, iv z1, iv z2, iv oi, iv oj, iv ch0, iv ch1, iv ch2, iv zB, iv 1, iv (((p6.toUInt32 >>> ((4 : Int32) &&& 31).toUInt32).toInt32) &&& (3 : Int32)), rv b17, iv z2, rv b231, lv p1, .second, lv p2, .second, lv p3, .second, lv p4, .second, rv (own_o w oi), rv b244, .unset, .unset] [(.int ze)])) (fun J => ?_) (fun ze hze => ?_)
    · show Goes p e below (T283.setTop (mkF m 389 #[lv p1, .second, lv p2, .second, lv p3, .second, lv p4, .second, iv p5, iv p6, rv b1, iv z1, iv z2, iv oi, iv oj, iv ch0, iv ch1, iv ch2, iv zB, iv 1, iv (((p6.toUInt32 >>> ((4 : Int32) &&& 31).toUInt32).toInt32) &&& (3 : Int32)), rv b17, iv z2, rv b231, lv p1, .second, lv p2, .second, lv p3, .second, lv p4, .second, rv (own_o w oi), rv b244, .unset, .unset] [(.int z2), (.int z1)])) _
      by_cases hc284 : z1 = z2
      · refine Goes.by (fun _ kz => XS.icmpNo X283.here hx rfl (hb hby at_389) rfl (teq hc284).2 (XS.iconst X283.here hx rfl (hb hby at_392) (XS.goto X283.here hx rfl (pc0 := 393) (pc' := 397) rfl (hb hby at_393) (by decide) (by decide) kz))) ?_
        show Goes p e below (T283.setTop (mkF m 397 #[lv p1, .second, lv p2, .second, lv p3, .second, lv p4, .second, iv p5, iv p6, rv b1, iv z1, iv z2, iv oi, iv oj, iv ch0, iv ch1, iv ch2, iv zB, iv 1, iv (((p6.toUInt32 >>> ((4 : Int32) &&& 31).toUInt32).toInt32) &&& (3 : Int32)), rv b17, iv z2, rv b231, lv p1, .second, lv p2, .second, lv p3, .second, lv p4, .second, rv (own_o w oi), rv b244, .unset, .unset] [(.int 1)])) _
        exact J (1 : Int32) (Or.inl ⟨rfl, hc284⟩)
      · refine Goes.by (fun _ kz => XS.icmpYes X283.here hx rfl (pc0 := 389) (pc' := 396) rfl (hb hby at_389) rfl (feq hc284).2 (by decide) (by decide) (XS.iconst X283.here hx rfl (hb hby at_396) kz)) ?_
        show Goes p e below (T283.setTop (mkF m 397 #[lv p1, .second, lv p2, .second, lv p3, .second, lv p4, .second, iv p5, iv p6, rv b1, iv z1, iv z2, iv oi, iv oj, iv ch0, iv ch1, iv ch2, iv zB, iv 1, iv (((p6.toUInt32 >>> ((4 : Int32) &&& 31).toUInt32).toInt32) &&& (3 : Int32)), rv b17, iv z2, rv b231, lv p1, .second, lv p2, .second, lv p3, .second, lv p4, .second, rv (own_o w oi), rv b244, .unset, .unset] [(.int 0)])) _
        exact J (0 : Int32) (Or.inr ⟨rfl, hc284⟩)
    show Goes p e below (T283.setTop (mkF m 397 #[lv p1, .second, lv p2, .second, lv p3, .second, lv p4, .second, iv p5, iv p6, rv b1, iv z1, iv z2, iv oi, iv oj, iv ch0, iv ch1, iv ch2, iv zB, iv 1, iv (((p6.toUInt32 >>> ((4 : Int32) &&& 31).toUInt32).toInt32) &&& (3 : Int32)), rv b17, iv z2, rv b231, lv p1, .second, lv p2, .second, lv p3, .second, lv p4, .second, rv (own_o w oi), rv b244, .unset, .unset] [(.int ze)])) _
    refine Goes.by (fun _ kz => XS.istore X283.here hx rfl (hb hby at_397) rfl rfl (XS.goto X283.here hx rfl (pc0 := 399) (pc' := 538) rfl (hb hby at_399) (by decide) (by decide) kz)) ?_
    show Goes p e below (T283.setTop (mkF m 538 #[lv p1, .second, lv p2, .second, lv p3, .second, lv p4, .second, iv p5, iv p6, rv b1, iv z1, iv z2, iv oi, iv oj, iv ch0, iv ch1, iv ch2, iv zB, iv 1, iv (((p6.toUInt32 >>> ((4 : Int32) &&& 31).toUInt32).toInt32) &&& (3 : Int32)), rv b17, iv z2, rv b231, lv p1, .second, lv p2, .second, lv p3, .second, lv p4, .second, rv (own_o w oi), rv b244, iv ze, .unset] [])) _
    have hsot := own_k (((p6.toUInt32 >>> ((4 : Int32) &&& 31).toUInt32).toInt32))
    obtain ⟨ot, hot⟩ : ∃ z, z = (((p6.toUInt32 >>> ((4 : Int32) &&& 31).toUInt32).toInt32) &&& (3 : Int32)) := ⟨_, rfl⟩
    rw [← hot] at hsot ⊢
    rcases hsot with rfl | rfl | rfl | rfl
    · show Goes p e below (T283.setTop (mkF m 538 #[lv p1, .second, lv p2, .second, lv p3, .second, lv p4, .second, iv p5, iv p6, rv b1, iv z1, iv z2, iv oi, iv oj, iv ch0, iv ch1, iv ch2, iv zB, iv 1, iv 0, rv b17, iv z2, rv b231, lv p1, .second, lv p2, .second, lv p3, .second, lv p4, .second, rv (own_o w oi), rv b244, iv ze, .unset] [])) _
      refine Goes.by (fun _ kz => XS.iload X283.here hx rfl (hb hby at_538) rfl (XS.iconst X283.here hx rfl (hb hby at_540) (XS.icmpYes X283.here hx rfl (pc0 := 541) (pc' := 552) rfl (hb hby at_541) rfl (feq (by decide : ¬ ((0 : Int32) = (1 : Int32)))).2 (by decide) (by decide) kz))) ?_
      show Goes p e below (T283.setTop (mkF m 552 #[lv p1, .second, lv p2, .second, lv p3, .second, lv p4, .second, iv p5, iv p6, rv b1, iv z1, iv z2, iv oi, iv oj, iv ch0, iv ch1, iv ch2, iv zB, iv 1, iv 0, rv b17, iv z2, rv b231, lv p1, .second, lv p2, .second, lv p3, .second, lv p4, .second, rv (own_o w oi), rv b244, iv ze, .unset] [])) _
      refine Goes.by (fun _ kz => XS.iload X283.here hx rfl (hb hby at_552) rfl (XS.iconst X283.here hx rfl (hb hby at_554) (XS.icmpYes X283.here hx rfl (pc0 := 555) (pc' := 573) rfl (hb hby at_555) rfl (feq (by decide : ¬ ((0 : Int32) = (2 : Int32)))).2 (by decide) (by decide) kz))) ?_
      show Goes p e below (T283.setTop (mkF m 573 #[lv p1, .second, lv p2, .second, lv p3, .second, lv p4, .second, iv p5, iv p6, rv b1, iv z1, iv z2, iv oi, iv oj, iv ch0, iv ch1, iv ch2, iv zB, iv 1, iv 0, rv b17, iv z2, rv b231, lv p1, .second, lv p2, .second, lv p3, .second, lv p4, .second, rv (own_o w oi), rv b244, iv ze, .unset] [])) _
      refine Goes.by (fun _ kz => XS.iload X283.here hx rfl (hb hby at_573) rfl (XS.iconst X283.here hx rfl (hb hby at_575) (XS.icmpYes X283.here hx rfl (pc0 := 576) (pc' := 612) rfl (hb hby at_576) rfl (feq (by decide : ¬ ((0 : Int32) = (3 : Int32)))).2 (by decide) (by decide) kz))) ?_
      show Goes p e below (T283.setTop (mkF m 612 #[lv p1, .second, lv p2, .second, lv p3, .second, lv p4, .second, iv p5, iv p6, rv b1, iv z1, iv z2, iv oi, iv oj, iv ch0, iv ch1, iv ch2, iv zB, iv 1, iv 0, rv b17, iv z2, rv b231, lv p1, .second, lv p2, .second, lv p3, .second, lv p4, .second, rv (own_o w oi), rv b244, iv ze, .unset] [])) _
      refine Goes.by (fun _ kz => XS.aload X283.here hx rfl (hb hby at_612) rfl rfl (XS.aload X283.here hx rfl (hb hby at_614) rfl rfl kz)) ?_
      have f285 := ((f268.keep Kq274).keep Kq283)
      have f286 := (((((Fld.other W241 (Fld.other W240 (fq81_0.ext E231) (Or.inl ne231_b17)) (Or.inl ne231_b17)).ext E244).ext E252).keep Kq274 (ninS ne252_b17 nin0)).keep Kq283 (ninS ne244_b17 nin0))
      have f287 := (((((Fld.other W241 (Fld.other W240 (fq81_1.ext E231) (Or.inl ne231_b17)) (Or.inl ne231_b17)).ext E244).ext E252).keep Kq274 (ninS ne252_b17 nin0)).keep Kq283 (ninS ne244_b17 nin0))
      have f288 := (((((Fld.other W241 (Fld.other W240 (fq81_2.ext E231) (Or.inl ne231_b17)) (Or.inl ne231_b17)).ext E244).ext E252).keep Kq274 (ninS ne252_b17 nin0)).keep Kq283 (ninS ne244_b17 nin0))
      have f289 := (((((Fld.other W241 (Fld.other W240 (fq81_3.ext E231) (Or.inl ne231_b17)) (Or.inl ne231_b17)).ext E244).ext E252).keep Kq274 (ninS ne252_b17 nin0)).keep Kq283 (ninS ne244_b17 nin0))
      have f290 := (((((Fld.other W241 (Fld.other W240 (fq81_4.ext E231) (Or.inl ne231_b17)) (Or.inl ne231_b17)).ext E244).ext E252).keep Kq274 (ninS ne252_b17 nin0)).keep Kq283 (ninS ne244_b17 nin0))
      have f291 := (((((Fld.other W241 (Fld.other W240 (fq81_5.ext E231) (Or.inl ne231_b17)) (Or.inl ne231_b17)).ext E244).ext E252).keep Kq274 (ninS ne252_b17 nin0)).keep Kq283 (ninS ne244_b17 nin0))
      have f292 := (((((Fld.other W241 (Fld.other W240 (fq81_6.ext E231) (Or.inl ne231_b17)) (Or.inl ne231_b17)).ext E244).ext E252).keep Kq274 (ninS ne252_b17 nin0)).keep Kq283 (ninS ne244_b17 nin0))
      have f293 := ((f269.keep Kq274).keep Kq283)
      have f294 := (((((Fld.other W241 (Fld.other W240 ((gV44.keep Kq81 (ninS (Ne.symm ne21_b17) nin0)).ext E231) (Or.inl ne231_b21)) (Or.inl ne231_b21)).ext E244).ext E252).keep Kq274 (ninS ne252_b21 nin0)).keep Kq283 (ninS ne244_b21 nin0))
      have f295 := (((((Fld.other W241 (Fld.other W240 ((gC44.keep Kq81 (ninS (Ne.symm ne21_b17) nin0)).ext E231) (Or.inl ne231_b21)) (Or.inl ne231_b21)).ext E244).ext E252).keep Kq274 (ninS ne252_b21 nin0)).keep Kq283 (ninS ne244_b21 nin0))
      have f296 := ((f271.keep Kq274 (ninS ne252_t44 nin0)).keep Kq283 (ninS ne244_t44 nin0))
      have f297 := (f275.keep Kq283)
      have f298 := ((A252.keep Kq274).keep Kq283)
      have f299 := (gV274.keep Kq283 (ninS (Ne.symm ne252_b244) nin0))
      have f300 := (gC274.keep Kq283 (ninS (Ne.symm ne252_b244) nin0))
      have f301 := (gA274.keep Kq283 (ninS (Ne.symm net274_b244) nin0))
      have f302 := (own_staKeep (own_staKeep f263 Kq274 (allS (own_nsE A252) all0)) Kq283 (allS (own_nsE f275) all0))
      obtain ⟨cq303, kq303, q303a, q303b, q303c⟩ := isOf hZ rfl f285
      obtain ⟨_, _, ⟨T303, L303, k303, n303⟩, -, X303, ⟨Lc303, hQ303, l303, y303, z303⟩, st303⟩ := X283.virtualBack hx (y := (⟨"com/example/killdeer/killdeer/GadgetView", "equals", "(Ljava/lang/Object;)Z"⟩ : MethodName)) (z := (⟨"com/example/killdeer/killdeer/GadgetView", "equals", "(Ljava/lang/Object;)Z"⟩ : MethodName)) hown (mvT hZ (wd hw 61 rfl)) (mvT hZ (wd hw 62 rfl)) (notFace_of_selects (args := #[]) (mvT hZ (wd hw 64 rfl))) (mvT hZ (wd hw 64 rfl)) (mvT hZ (wd hw 63 rfl)) (by decide) (backOf (W := 0) (r8_0 l Z a0 hw [] T283.heap n0 Z283 b17 b244 (nar .boolean z1) (nar .boolean z2) b21 b252 t44 t274 kb44 kb274 ([ch0, ch1] : List Int32) ([ch0, ch1] : List Int32) (2 : Int32) (2 : Int32) ((([ch0, ch1] : List Int32).map (fun c => c.toInt8.toInt32)).map Value.int) ((([ch0, ch1] : List Int32).map (fun c => c.toInt8.toInt32)).map Value.int) p1 p1 p2 p2 p3 p3 p4 p4 (own_o w oi) (own_o w oi) zc f285 f286 f287 f288 f289 f290 f291 f292 f293 f294 f295 f296 hcd43 hbd43 (by simp) f297 fq283_0 fq283_1 fq283_2 fq283_3 fq283_4 fq283_5 fq283_6 f298 f299 f300 f301 hcd273 hbd273 (by simp) f302 hzc ne244_b17) hZ (wd hw 65 rfl) (wd hw 12 rfl) (by decide) (by decide)) q303a q303c (g := (mkF m 616 #[lv p1, .second, lv p2, .second, lv p3, .second, lv p4, .second, iv p5, iv p6, rv b1, iv z1, iv z2, iv oi, iv oj, iv ch0, iv ch1, iv ch2, iv zB, iv 1, iv 0, rv b17, iv z2, rv b231, lv p1, .second, lv p2, .second, lv p3, .second, lv p4, .second, rv (own_o w oi), rv b244, iv ze, .unset] [(.ref b244), (.ref b17)])) rfl (by rw [hml]; rfl) (Steps.refl _) (argsL := [(.ref b244)]) (rest := []) (lenOf pd2 rfl) rfl (by show 2 * 0 + _ ≤ _; exact Nat.le_of_eq rfl) (hb hby at_616) (fun _ _ => ⟨rfl, rfl, (by decide : 9 + 0 ≤ _), (by decide : 33 + 0 ≤ _)⟩)
      dsimp only [Pt.U, Pt.locs, Pt.cells, Pt.slots] at X303 l303 y303 z303 st303 hQ303
      subst l303 y303 z303
      rcases hQ303 with hQ303 | hQ303
      · obtain ⟨rfl, Nq303, e303, hS303⟩ := hQ303
        have N303 := Fr.app N283 Nq303
        refine Goes.tr st303 ?_
        refine Goes.by (fun _ kz => XS.iload X303.here hx rfl (hb hby at_619) rfl kz) ?_
        show Goes p e below (T303.setTop (mkF m 621 #[lv p1, .second, lv p2, .second, lv p3, .second, lv p4, .second, iv p5, iv p6, rv b1, iv z1, iv z2, iv oi, iv oj, iv ch0, iv ch1, iv ch2, iv zB, iv 1, iv 0, rv b17, iv z2, rv b231, lv p1, .second, lv p2, .second, lv p3, .second, lv p4, .second, rv (own_o w oi), rv b244, iv ze, .unset] [(.int ze), (.int 1)])) _
        by_cases hc304 : (1 : Int32) = ze
        · refine Goes.by (fun _ kz => XS.icmpNo X303.here hx rfl (hb hby at_621) rfl (teq hc304).2 (XS.aload X303.here hx rfl (hb hby at_624) rfl rfl (XS.aload X303.here hx rfl (hb hby at_626) rfl rfl kz))) ?_
          obtain ⟨cq305, kq305, q305a, q305b, q305c⟩ := isOf hZ e303 f297
          obtain ⟨_, _, ⟨T305, L305, k305, n305⟩, -, X305, ⟨Lc305, hQ305, l305, y305, z305⟩, st305⟩ := X303.virtualBack hx (y := (⟨"com/example/killdeer/killdeer/GadgetView", "equals", "(Ljava/lang/Object;)Z"⟩ : MethodName)) (z := (⟨"com/example/killdeer/killdeer/GadgetView", "equals", "(Ljava/lang/Object;)Z"⟩ : MethodName)) hown (mvT hZ (wd hw 61 rfl)) (mvT hZ (wd hw 62 rfl)) (notFace_of_selects (args := #[]) (mvT hZ (wd hw 64 rfl))) (mvT hZ (wd hw 64 rfl)) (mvT hZ (wd hw 63 rfl)) (by decide) (backOf (W := 0) (r8_0 l Z a0 hw [] T283.heap n0 Z283 b244 b17 (nar .boolean z2) (nar .boolean z1) b252 b21 t274 t44 kb274 kb44 ([ch0, ch1] : List Int32) ([ch0, ch1] : List Int32) (2 : Int32) (2 : Int32) ((([ch0, ch1] : List Int32).map (fun c => c.toInt8.toInt32)).map Value.int) ((([ch0, ch1] : List Int32).map (fun c => c.toInt8.toInt32)).map Value.int) p1 p1 p2 p2 p3 p3 p4 p4 (own_o w oi) (own_o w oi) zc f297 fq283_0 fq283_1 fq283_2 fq283_3 fq283_4 fq283_5 fq283_6 f298 f299 f300 f301 hcd273 hbd273 (by simp) f285 f286 f287 f288 f289 f290 f291 f292 f293 f294 f295 f296 hcd43 hbd43 (by simp) f302 hzc (Ne.symm ne244_b17)) hZ (wd hw 65 rfl) (wd hw 12 rfl) (by decide) (by decide)) q305a q305c (g := (mkF m 628 #[lv p1, .second, lv p2, .second, lv p3, .second, lv p4, .second, iv p5, iv p6, rv b1, iv z1, iv z2, iv oi, iv oj, iv ch0, iv ch1, iv ch2, iv zB, iv 1, iv 0, rv b17, iv z2, rv b231, lv p1, .second, lv p2, .second, lv p3, .second, lv p4, .second, rv (own_o w oi), rv b244, iv ze, .unset] [(.ref b17), (.ref b244)])) rfl (by rw [hml]; rfl) (Steps.refl _) (argsL := [(.ref b17)]) (rest := []) (lenOf pd2 rfl) rfl (by show 2 * 0 + _ ≤ _; exact Nat.le_of_eq rfl) (hb hby at_628) (fun _ _ => ⟨rfl, e303, (by decide : 9 + 0 ≤ _), (by decide : 33 + 0 ≤ _)⟩)
          dsimp only [Pt.U, Pt.locs, Pt.cells, Pt.slots] at X305 l305 y305 z305 st305 hQ305
          subst l305 y305 z305
          rcases hQ305 with hQ305 | hQ305
          · obtain ⟨rfl, Nq305, e305, hS305⟩ := hQ305
            have N305 := Fr.app N303 Nq305
            refine Goes.tr st305 ?_
            refine Goes.by (fun _ kz => XS.iload X305.here hx rfl (hb hby at_631) rfl (XS.icmpNo X305.here hx rfl (hb hby at_633) rfl (teq hc304).2 (XS.iconst X305.here hx rfl (hb hby at_636) kz))) ?_
            show Goes p e below (T305.setTop (mkF m 637 #[lv p1, .second, lv p2, .second, lv p3, .second, lv p4, .second, iv p5, iv p6, rv b1, iv z1, iv z2, iv oi, iv oj, iv ch0, iv ch1, iv ch2, iv zB, iv 1, iv 0, rv b17, iv z2, rv b231, lv p1, .second, lv p2, .second, lv p3, .second, lv p4, .second, rv (own_o w oi), rv b244, iv ze, .unset] [(.int 1)])) _
            refine Goes.by (fun _ kz => XS.goto X305.here hx rfl (pc0 := 637) (pc' := 641) rfl (hb hby at_637) (by decide) (by decide) kz) ?_
            show Goes p e below (T305.setTop (mkF m 641 #[lv p1, .second, lv p2, .second, lv p3, .second, lv p4, .second, iv p5, iv p6, rv b1, iv z1, iv z2, iv oi, iv oj, iv ch0, iv ch1, iv ch2, iv zB, iv 1, iv 0, rv b17, iv z2, rv b231, lv p1, .second, lv p2, .second, lv p3, .second, lv p4, .second, rv (own_o w oi), rv b244, iv ze, .unset] [(.int 1)])) _
            obtain ⟨fs, hr, hrun, hended, hW, hsame⟩ := X305.leave (v := some (.int 1)) (fun h => by rw [Bd.returns] at h; cases h)
            exact ⟨_, _, retN X305 hx (t := .boolean) Bd.returns (by simp) (hb hby at_641) hr, hrun, hended, _, _, rfl, ⟨rfl, N305⟩, ⟨_, rfl⟩, hW, hsame.mono (by decide) (by decide)⟩
          · obtain ⟨rfl, Nq305, e305, hS305⟩ := hQ305
            have N305 := Fr.app N303 Nq305
            refine Goes.tr st305 ?_
            refine Goes.by (fun _ kz => XS.iload X305.here hx rfl (hb hby at_631) rfl (XS.icmpYes X305.here hx rfl (pc0 := 633) (pc' := 640) rfl (hb hby at_633) rfl (feq (by rw [← hc304]; decide : ¬ ((0 : Int32) = ze))).2 (by decide) (by decide) (XS.iconst X305.here hx rfl (hb hby at_640) kz))) ?_
            show Goes p e below (T305.setTop (mkF m 641 #[lv p1, .second, lv p2, .second, lv p3, .second, lv p4, .second, iv p5, iv p6, rv b1, iv z1, iv z2, iv oi, iv oj, iv ch0, iv ch1, iv ch2, iv zB, iv 1, iv 0, rv b17, iv z2, rv b231, lv p1, .second, lv p2, .second, lv p3, .second, lv p4, .second, rv (own_o w oi), rv b244, iv ze, .unset] [(.int 0)])) _
            exfalso
            rcases hze with ⟨hz, hC⟩ | ⟨hz, hC⟩
            · first | (rw [hz] at hc304; exact absurd hc304 (by decide)) | (revert hS305; simp [own_same, own_nb hz1, own_nb hz2, own_oinj pne01 pne02 pne12 h_oi h_oj, own_oinj pne01 pne02 pne12 h_oj h_oi, hC]; done)
            · first | (rw [hz] at hc304; exact absurd hc304 (by decide)) | (revert hS305; simp [own_same, own_nb hz1, own_nb hz2, own_oinj pne01 pne02 pne12 h_oi h_oj, own_oinj pne01 pne02 pne12 h_oj h_oi, hC, Ne.symm hC]; done)
        · refine Goes.by (fun _ kz => XS.icmpYes X303.here hx rfl (pc0 := 621) (pc' := 640) rfl (hb hby at_621) rfl (feq hc304).2 (by decide) (by decide) (XS.iconst X303.here hx rfl (hb hby at_640) kz)) ?_
          show Goes p e below (T303.setTop (mkF m 641 #[lv p1, .second, lv p2, .second, lv p3, .second, lv p4, .second, iv p5, iv p6, rv b1, iv z1, iv z2, iv oi, iv oj, iv ch0, iv ch1, iv ch2, iv zB, iv 1, iv 0, rv b17, iv z2, rv b231, lv p1, .second, lv p2, .second, lv p3, .second, lv p4, .second, rv (own_o w oi), rv b244, iv ze, .unset] [(.int 0)])) _
          exfalso
          rcases hze with ⟨hz, hC⟩ | ⟨hz, hC⟩
          · first | (rw [hz] at hc304; exact absurd hc304 (by decide)) | (revert hS303; simp [own_same, own_nb hz1, own_nb hz2, own_oinj pne01 pne02 pne12 h_oi h_oj, own_oinj pne01 pne02 pne12 h_oj h_oi, hC]; done)
          · first | (rw [hz] at hc304; exact absurd hc304 (by decide)) | (revert hS303; simp [own_same, own_nb hz1, own_nb hz2, own_oinj pne01 pne02 pne12 h_oi h_oj, own_oinj pne01 pne02 pne12 h_oj h_oi, hC, Ne.symm hC]; done)
      · obtain ⟨rfl, Nq303, e303, hS303⟩ := hQ303
        have N303 := Fr.app N283 Nq303
        refine Goes.tr st303 ?_
        refine Goes.by (fun _ kz => XS.iload X303.here hx rfl (hb hby at_619) rfl kz) ?_
        show Goes p e below (T303.setTop (mkF m 621 #[lv p1, .second, lv p2, .second, lv p3, .second, lv p4, .second, iv p5, iv p6, rv b1, iv z1, iv z2, iv oi, iv oj, iv ch0, iv ch1, iv ch2, iv zB, iv 1, iv 0, rv b17, iv z2, rv b231, lv p1, .second, lv p2, .second, lv p3, .second, lv p4, .second, rv (own_o w oi), rv b244, iv ze, .unset] [(.int ze), (.int 0)])) _
        by_cases hc306 : (0 : Int32) = ze
        · refine Goes.by (fun _ kz => XS.icmpNo X303.here hx rfl (hb hby at_621) rfl (teq hc306).2 (XS.aload X303.here hx rfl (hb hby at_624) rfl rfl (XS.aload X303.here hx rfl (hb hby at_626) rfl rfl kz))) ?_
          obtain ⟨cq307, kq307, q307a, q307b, q307c⟩ := isOf hZ e303 f297
          obtain ⟨_, _, ⟨T307, L307, k307, n307⟩, -, X307, ⟨Lc307, hQ307, l307, y307, z307⟩, st307⟩ := X303.virtualBack hx (y := (⟨"com/example/killdeer/killdeer/GadgetView", "equals", "(Ljava/lang/Object;)Z"⟩ : MethodName)) (z := (⟨"com/example/killdeer/killdeer/GadgetView", "equals", "(Ljava/lang/Object;)Z"⟩ : MethodName)) hown (mvT hZ (wd hw 61 rfl)) (mvT hZ (wd hw 62 rfl)) (notFace_of_selects (args := #[]) (mvT hZ (wd hw 64 rfl))) (mvT hZ (wd hw 64 rfl)) (mvT hZ (wd hw 63 rfl)) (by decide) (backOf (W := 0) (r8_0 l Z a0 hw [] T283.heap n0 Z283 b244 b17 (nar .boolean z2) (nar .boolean z1) b252 b21 t274 t44 kb274 kb44 ([ch0, ch1] : List Int32) ([ch0, ch1] : List Int32) (2 : Int32) (2 : Int32) ((([ch0, ch1] : List Int32).map (fun c => c.toInt8.toInt32)).map Value.int) ((([ch0, ch1] : List Int32).map (fun c => c.toInt8.toInt32)).map Value.int) p1 p1 p2 p2 p3 p3 p4 p4 (own_o w oi) (own_o w oi) zc f297 fq283_0 fq283_1 fq283_2 fq283_3 fq283_4 fq283_5 fq283_6 f298 f299 f300 f301 hcd273 hbd273 (by simp) f285 f286 f287 f288 f289 f290 f291 f292 f293 f294 f295 f296 hcd43 hbd43 (by simp) f302 hzc (Ne.symm ne244_b17)) hZ (wd hw 65 rfl) (wd hw 12 rfl) (by decide) (by decide)) q307a q307c (g := (mkF m 628 #[lv p1, .second, lv p2, .second, lv p3, .second, lv p4, .second, iv p5, iv p6, rv b1, iv z1, iv z2, iv oi, iv oj, iv ch0, iv ch1, iv ch2, iv zB, iv 1, iv 0, rv b17, iv z2, rv b231, lv p1, .second, lv p2, .second, lv p3, .second, lv p4, .second, rv (own_o w oi), rv b244, iv ze, .unset] [(.ref b17), (.ref b244)])) rfl (by rw [hml]; rfl) (Steps.refl _) (argsL := [(.ref b17)]) (rest := []) (lenOf pd2 rfl) rfl (by show 2 * 0 + _ ≤ _; exact Nat.le_of_eq rfl) (hb hby at_628) (fun _ _ => ⟨rfl, e303, (by decide : 9 + 0 ≤ _), (by decide : 33 + 0 ≤ _)⟩)
          dsimp only [Pt.U, Pt.locs, Pt.cells, Pt.slots] at X307 l307 y307 z307 st307 hQ307
          subst l307 y307 z307
          rcases hQ307 with hQ307 | hQ307
          · obtain ⟨rfl, Nq307, e307, hS307⟩ := hQ307
            have N307 := Fr.app N303 Nq307
            refine Goes.tr st307 ?_
            refine Goes.by (fun _ kz => XS.iload X307.here hx rfl (hb hby at_631) rfl (XS.icmpYes X307.here hx rfl (pc0 := 633) (pc' := 640) rfl (hb hby at_633) rfl (feq (by rw [← hc306]; decide : ¬ ((1 : Int32) = ze))).2 (by decide) (by decide) (XS.iconst X307.here hx rfl (hb hby at_640) kz))) ?_
            show Goes p e below (T307.setTop (mkF m 641 #[lv p1, .second, lv p2, .second, lv p3, .second, lv p4, .second, iv p5, iv p6, rv b1, iv z1, iv z2, iv oi, iv oj, iv ch0, iv ch1, iv ch2, iv zB, iv 1, iv 0, rv b17, iv z2, rv b231, lv p1, .second, lv p2, .second, lv p3, .second, lv p4, .second, rv (own_o w oi), rv b244, iv ze, .unset] [(.int 0)])) _
            exfalso
            rcases hze with ⟨hz, hC⟩ | ⟨hz, hC⟩
            · first | (rw [hz] at hc306; exact absurd hc306 (by decide)) | (revert hS307; simp [own_same, own_nb hz1, own_nb hz2, own_oinj pne01 pne02 pne12 h_oi h_oj, own_oinj pne01 pne02 pne12 h_oj h_oi, hC]; done)
            · first | (rw [hz] at hc306; exact absurd hc306 (by decide)) | (revert hS307; simp [own_same, own_nb hz1, own_nb hz2, own_oinj pne01 pne02 pne12 h_oi h_oj, own_oinj pne01 pne02 pne12 h_oj h_oi, hC, Ne.symm hC]; done)
          · obtain ⟨rfl, Nq307, e307, hS307⟩ := hQ307
            have N307 := Fr.app N303 Nq307
            refine Goes.tr st307 ?_
            refine Goes.by (fun _ kz => XS.iload X307.here hx rfl (hb hby at_631) rfl (XS.icmpNo X307.here hx rfl (hb hby at_633) rfl (teq hc306).2 (XS.iconst X307.here hx rfl (hb hby at_636) kz))) ?_
            show Goes p e below (T307.setTop (mkF m 637 #[lv p1, .second, lv p2, .second, lv p3, .second, lv p4, .second, iv p5, iv p6, rv b1, iv z1, iv z2, iv oi, iv oj, iv ch0, iv ch1, iv ch2, iv zB, iv 1, iv 0, rv b17, iv z2, rv b231, lv p1, .second, lv p2, .second, lv p3, .second, lv p4, .second, rv (own_o w oi), rv b244, iv ze, .unset] [(.int 1)])) _
            refine Goes.by (fun _ kz => XS.goto X307.here hx rfl (pc0 := 637) (pc' := 641) rfl (hb hby at_637) (by decide) (by decide) kz) ?_
            show Goes p e below (T307.setTop (mkF m 641 #[lv p1, .second, lv p2, .second, lv p3, .second, lv p4, .second, iv p5, iv p6, rv b1, iv z1, iv z2, iv oi, iv oj, iv ch0, iv ch1, iv ch2, iv zB, iv 1, iv 0, rv b17, iv z2, rv b231, lv p1, .second, lv p2, .second, lv p3, .second, lv p4, .second, rv (own_o w oi), rv b244, iv ze, .unset] [(.int 1)])) _
            obtain ⟨fs, hr, hrun, hended, hW, hsame⟩ := X307.leave (v := some (.int 1)) (fun h => by rw [Bd.returns] at h; cases h)
            exact ⟨_, _, retN X307 hx (t := .boolean) Bd.returns (by simp) (hb hby at_641) hr, hrun, hended, _, _, rfl, ⟨rfl, N307⟩, ⟨_, rfl⟩, hW, hsame.mono (by decide) (by decide)⟩
        · refine Goes.by (fun _ kz => XS.icmpYes X303.here hx rfl (pc0 := 621) (pc' := 640) rfl (hb hby at_621) rfl (feq hc306).2 (by decide) (by decide) (XS.iconst X303.here hx rfl (hb hby at_640) kz)) ?_
          show Goes p e below (T303.setTop (mkF m 641 #[lv p1, .second, lv p2, .second, lv p3, .second, lv p4, .second, iv p5, iv p6, rv b1, iv z1, iv z2, iv oi, iv oj, iv ch0, iv ch1, iv ch2, iv zB, iv 1, iv 0, rv b17, iv z2, rv b231, lv p1, .second, lv p2, .second, lv p3, .second, lv p4, .second, rv (own_o w oi), rv b244, iv ze, .unset] [(.int 0)])) _
          exfalso
          rcases hze with ⟨hz, hC⟩ | ⟨hz, hC⟩
          · first | (rw [hz] at hc306; exact absurd hc306 (by decide)) | (revert hS303; simp [own_same, own_nb hz1, own_nb hz2, own_oinj pne01 pne02 pne12 h_oi h_oj, own_oinj pne01 pne02 pne12 h_oj h_oi, hC]; done)
          · first | (rw [hz] at hc306; exact absurd hc306 (by decide)) | (revert hS303; simp [own_same, own_nb hz1, own_nb hz2, own_oinj pne01 pne02 pne12 h_oi h_oj, own_oinj pne01 pne02 pne12 h_oj h_oi, hC, Ne.symm hC]; done)
    · show Goes p e below (T283.setTop (mkF m 538 #[lv p1, .second, lv p2, .second, lv p3, .second, lv p4, .second, iv p5, iv p6, rv b1, iv z1, iv z2, iv oi, iv oj, iv ch0, iv ch1, iv ch2, iv zB, iv 1, iv 1, rv b17, iv z2, rv b231, lv p1, .second, lv p2, .second, lv p3, .second, lv p4, .second, rv (own_o w oi), rv b244, iv ze, .unset] [])) _
      refine Goes.by (fun _ kz => XS.iload X283.here hx rfl (hb hby at_538) rfl (XS.iconst X283.here hx rfl (hb hby at_540) (XS.icmpNo X283.here hx rfl (hb hby at_541) rfl (teq (by decide : (1 : Int32) = (1 : Int32))).2 kz))) ?_
      show Goes p e below (T283.setTop (mkF m 544 #[lv p1, .second, lv p2, .second, lv p3, .second, lv p4, .second, iv p5, iv p6, rv b1, iv z1, iv z2, iv oi, iv oj, iv ch0, iv ch1, iv ch2, iv zB, iv 1, iv 1, rv b17, iv z2, rv b231, lv p1, .second, lv p2, .second, lv p3, .second, lv p4, .second, rv (own_o w oi), rv b244, iv ze, .unset] [])) _
      refine Goes.by (fun _ kz => XS.aload X283.here hx rfl (hb hby at_544) rfl rfl (XS.aload X283.here hx rfl (hb hby at_546) rfl rfl kz)) ?_
      have f309 := ((f268.keep Kq274).keep Kq283)
      obtain ⟨cq308, kq308, q308a, q308b, q308c⟩ := isOf hZ rfl f309
      obtain ⟨_, _, ⟨T308, L308, k308, n308⟩, -, X308, ⟨Lc308, hQ308, l308, y308, z308⟩, st308⟩ := X283.virtualBack hx (y := (⟨"com/example/killdeer/killdeer/GadgetView", "equals", "(Ljava/lang/Object;)Z"⟩ : MethodName)) (z := (⟨"com/example/killdeer/killdeer/GadgetView", "equals", "(Ljava/lang/Object;)Z"⟩ : MethodName)) hown (mvT hZ (wd hw 61 rfl)) (mvT hZ (wd hw 62 rfl)) (notFace_of_selects (args := #[]) (mvT hZ (wd hw 64 rfl))) (mvT hZ (wd hw 64 rfl)) (mvT hZ (wd hw 63 rfl)) (by decide) (backOf (W := 0) (r8_same l Z a0 hw [] T283.heap n0 Z283 b17) hZ (wd hw 65 rfl) (wd hw 12 rfl) (by decide) (by decide)) q308a q308c (g := (mkF m 548 #[lv p1, .second, lv p2, .second, lv p3, .second, lv p4, .second, iv p5, iv p6, rv b1, iv z1, iv z2, iv oi, iv oj, iv ch0, iv ch1, iv ch2, iv zB, iv 1, iv 1, rv b17, iv z2, rv b231, lv p1, .second, lv p2, .second, lv p3, .second, lv p4, .second, rv (own_o w oi), rv b244, iv ze, .unset] [(.ref b17), (.ref b17)])) rfl (by rw [hml]; rfl) (Steps.refl _) (argsL := [(.ref b17)]) (rest := []) (lenOf pd2 rfl) rfl (by show 2 * 0 + _ ≤ _; exact Nat.le_of_eq rfl) (hb hby at_548) (fun _ _ => ⟨rfl, rfl, (by decide : 9 + 0 ≤ _), (by decide : 33 + 0 ≤ _)⟩)
      dsimp only [Pt.U, Pt.locs, Pt.cells, Pt.slots] at X308 l308 y308 z308 st308 hQ308
      subst l308 y308 z308
      obtain ⟨rfl, Nq308, e308⟩ := hQ308
      have N308 := Fr.app N283 Nq308
      refine Goes.tr st308 ?_
      show Goes p e below (T308.setTop (mkF m 551 #[lv p1, .second, lv p2, .second, lv p3, .second, lv p4, .second, iv p5, iv p6, rv b1, iv z1, iv z2, iv oi, iv oj, iv ch0, iv ch1, iv ch2, iv zB, iv 1, iv 1, rv b17, iv z2, rv b231, lv p1, .second, lv p2, .second, lv p3, .second, lv p4, .second, rv (own_o w oi), rv b244, iv ze, .unset] [(.int 1)])) _
      obtain ⟨fs, hr, hrun, hended, hW, hsame⟩ := X308.leave (v := some (.int 1)) (fun h => by rw [Bd.returns] at h; cases h)
      exact ⟨_, _, retN X308 hx (t := .boolean) Bd.returns (by simp) (hb hby at_551) hr, hrun, hended, _, _, rfl, ⟨rfl, N308⟩, ⟨_, rfl⟩, hW, hsame.mono (by decide) (by decide)⟩
    · show Goes p e below (T283.setTop (mkF m 538 #[lv p1, .second, lv p2, .second, lv p3, .second, lv p4, .second, iv p5, iv p6, rv b1, iv z1, iv z2, iv oi, iv oj, iv ch0, iv ch1, iv ch2, iv zB, iv 1, iv 2, rv b17, iv z2, rv b231, lv p1, .second, lv p2, .second, lv p3, .second, lv p4, .second, rv (own_o w oi), rv b244, iv ze, .unset] [])) _
      refine Goes.by (fun _ kz => XS.iload X283.here hx rfl (hb hby at_538) rfl (XS.iconst X283.here hx rfl (hb hby at_540) (XS.icmpYes X283.here hx rfl (pc0 := 541) (pc' := 552) rfl (hb hby at_541) rfl (feq (by decide : ¬ ((2 : Int32) = (1 : Int32)))).2 (by decide) (by decide) kz))) ?_
      show Goes p e below (T283.setTop (mkF m 552 #[lv p1, .second, lv p2, .second, lv p3, .second, lv p4, .second, iv p5, iv p6, rv b1, iv z1, iv z2, iv oi, iv oj, iv ch0, iv ch1, iv ch2, iv zB, iv 1, iv 2, rv b17, iv z2, rv b231, lv p1, .second, lv p2, .second, lv p3, .second, lv p4, .second, rv (own_o w oi), rv b244, iv ze, .unset] [])) _
      refine Goes.by (fun _ kz => XS.iload X283.here hx rfl (hb hby at_552) rfl (XS.iconst X283.here hx rfl (hb hby at_554) (XS.icmpNo X283.here hx rfl (hb hby at_555) rfl (teq (by decide : (2 : Int32) = (2 : Int32))).2 kz))) ?_
      show Goes p e below (T283.setTop (mkF m 558 #[lv p1, .second, lv p2, .second, lv p3, .second, lv p4, .second, iv p5, iv p6, rv b1, iv z1, iv z2, iv oi, iv oj, iv ch0, iv ch1, iv ch2, iv zB, iv 1, iv 2, rv b17, iv z2, rv b231, lv p1, .second, lv p2, .second, lv p3, .second, lv p4, .second, rv (own_o w oi), rv b244, iv ze, .unset] [])) _
      refine Goes.by (fun _ kz => XS.aload X283.here hx rfl (hb hby at_558) rfl rfl (XS.aconstNull X283.here hx rfl (hb hby at_560) kz)) ?_
      have f311 := ((f268.keep Kq274).keep Kq283)
      obtain ⟨cq310, kq310, q310a, q310b, q310c⟩ := isOf hZ rfl f311
      obtain ⟨_, _, ⟨T310, L310, k310, n310⟩, -, X310, ⟨Lc310, hQ310, l310, y310, z310⟩, st310⟩ := X283.virtualBack hx (y := (⟨"com/example/killdeer/killdeer/GadgetView", "equals", "(Ljava/lang/Object;)Z"⟩ : MethodName)) (z := (⟨"com/example/killdeer/killdeer/GadgetView", "equals", "(Ljava/lang/Object;)Z"⟩ : MethodName)) hown (mvT hZ (wd hw 61 rfl)) (mvT hZ (wd hw 62 rfl)) (notFace_of_selects (args := #[]) (mvT hZ (wd hw 64 rfl))) (mvT hZ (wd hw 64 rfl)) (mvT hZ (wd hw 63 rfl)) (by decide) (backOf (W := 0) (r8_null l Z a0 hw [] T283.heap n0 Z283 b17) hZ (wd hw 65 rfl) (wd hw 12 rfl) (by decide) (by decide)) q310a q310c (g := (mkF m 561 #[lv p1, .second, lv p2, .second, lv p3, .second, lv p4, .second, iv p5, iv p6, rv b1, iv z1, iv z2, iv oi, iv oj, iv ch0, iv ch1, iv ch2, iv zB, iv 1, iv 2, rv b17, iv z2, rv b231, lv p1, .second, lv p2, .second, lv p3, .second, lv p4, .second, rv (own_o w oi), rv b244, iv ze, .unset] [.null, (.ref b17)])) rfl (by rw [hml]; rfl) (Steps.refl _) (argsL := [.null]) (rest := []) (lenOf pd2 rfl) rfl (by show 2 * 0 + _ ≤ _; exact Nat.le_of_eq rfl) (hb hby at_561) (fun _ _ => ⟨rfl, rfl, (by decide : 9 + 0 ≤ _), (by decide : 33 + 0 ≤ _)⟩)
      dsimp only [Pt.U, Pt.locs, Pt.cells, Pt.slots] at X310 l310 y310 z310 st310 hQ310
      subst l310 y310 z310
      obtain ⟨rfl, Nq310, e310⟩ := hQ310
      have N310 := Fr.app N283 Nq310
      refine Goes.tr st310 ?_
      refine Goes.by (fun _ kz => XS.ifNo X310.here hx rfl (hb hby at_564) rfl ((if0 _ _).trans (teq (by decide : (0 : Int32) = (0 : Int32))).2) (XS.iconst X310.here hx rfl (hb hby at_567) (XS.goto X310.here hx rfl (pc0 := 568) (pc' := 572) rfl (hb hby at_568) (by decide) (by decide) kz))) ?_
      show Goes p e below (T310.setTop (mkF m 572 #[lv p1, .second, lv p2, .second, lv p3, .second, lv p4, .second, iv p5, iv p6, rv b1, iv z1, iv z2, iv oi, iv oj, iv ch0, iv ch1, iv ch2, iv zB, iv 1, iv 2, rv b17, iv z2, rv b231, lv p1, .second, lv p2, .second, lv p3, .second, lv p4, .second, rv (own_o w oi), rv b244, iv ze, .unset] [(.int 1)])) _
      obtain ⟨fs, hr, hrun, hended, hW, hsame⟩ := X310.leave (v := some (.int 1)) (fun h => by rw [Bd.returns] at h; cases h)
      exact ⟨_, _, retN X310 hx (t := .boolean) Bd.returns (by simp) (hb hby at_572) hr, hrun, hended, _, _, rfl, ⟨rfl, N310⟩, ⟨_, rfl⟩, hW, hsame.mono (by decide) (by decide)⟩
    · show Goes p e below (T283.setTop (mkF m 538 #[lv p1, .second, lv p2, .second, lv p3, .second, lv p4, .second, iv p5, iv p6, rv b1, iv z1, iv z2, iv oi, iv oj, iv ch0, iv ch1, iv ch2, iv zB, iv 1, iv 3, rv b17, iv z2, rv b231, lv p1, .second, lv p2, .second, lv p3, .second, lv p4, .second, rv (own_o w oi), rv b244, iv ze, .unset] [])) _
      refine Goes.by (fun _ kz => XS.iload X283.here hx rfl (hb hby at_538) rfl (XS.iconst X283.here hx rfl (hb hby at_540) (XS.icmpYes X283.here hx rfl (pc0 := 541) (pc' := 552) rfl (hb hby at_541) rfl (feq (by decide : ¬ ((3 : Int32) = (1 : Int32)))).2 (by decide) (by decide) kz))) ?_
      show Goes p e below (T283.setTop (mkF m 552 #[lv p1, .second, lv p2, .second, lv p3, .second, lv p4, .second, iv p5, iv p6, rv b1, iv z1, iv z2, iv oi, iv oj, iv ch0, iv ch1, iv ch2, iv zB, iv 1, iv 3, rv b17, iv z2, rv b231, lv p1, .second, lv p2, .second, lv p3, .second, lv p4, .second, rv (own_o w oi), rv b244, iv ze, .unset] [])) _
      refine Goes.by (fun _ kz => XS.iload X283.here hx rfl (hb hby at_552) rfl (XS.iconst X283.here hx rfl (hb hby at_554) (XS.icmpYes X283.here hx rfl (pc0 := 555) (pc' := 573) rfl (hb hby at_555) rfl (feq (by decide : ¬ ((3 : Int32) = (2 : Int32)))).2 (by decide) (by decide) kz))) ?_
      show Goes p e below (T283.setTop (mkF m 573 #[lv p1, .second, lv p2, .second, lv p3, .second, lv p4, .second, iv p5, iv p6, rv b1, iv z1, iv z2, iv oi, iv oj, iv ch0, iv ch1, iv ch2, iv zB, iv 1, iv 3, rv b17, iv z2, rv b231, lv p1, .second, lv p2, .second, lv p3, .second, lv p4, .second, rv (own_o w oi), rv b244, iv ze, .unset] [])) _
      refine Goes.by (fun _ kz => XS.iload X283.here hx rfl (hb hby at_573) rfl (XS.iconst X283.here hx rfl (hb hby at_575) (XS.icmpNo X283.here hx rfl (hb hby at_576) rfl (teq (by decide : (3 : Int32) = (3 : Int32))).2 kz))) ?_
      have f313 := ((f264.keep Kq274).keep Kq283)
      have f314 := ((f265.keep Kq274).keep Kq283)
      have f315 := ((f266.keep Kq274).keep Kq283)
      have f316 := ((f267.keep Kq274 (ninS ne252_b1 nin0)).keep Kq283 (ninS ne244_b1 nin0))
      have f317 := ((f268.keep Kq274).keep Kq283)
      have f318 := ((f269.keep Kq274).keep Kq283)
      have f319 := ((f270.keep Kq274 (ninS ne252_b26 nin0)).keep Kq283 (ninS ne244_b26 nin0))
      have f320 := ((f271.keep Kq274 (ninS ne252_t44 nin0)).keep Kq283 (ninS ne244_t44 nin0))
      have f321 := ((f262.keep Kq274 (ninS ne252_b231 nin0)).keep Kq283 (ninS ne244_b231 nin0))
      have f322 := (f275.keep Kq283)
      have f323 := ((A252.keep Kq274).keep Kq283)
      have f324 := (gA274.keep Kq283 (ninS (Ne.symm net274_b244) nin0))
      obtain ⟨T312, h312, X312, e312, E312, A312, D312, -, st312⟩ := newO X283 hx hZ hown (wd hw 13 rfl) (wd hw 14 rfl) (wd hw 15 rfl) rfl (g := (mkF m 579 #[lv p1, .second, lv p2, .second, lv p3, .second, lv p4, .second, iv p5, iv p6, rv b1, iv z1, iv z2, iv oi, iv oj, iv ch0, iv ch1, iv ch2, iv zB, iv 1, iv 3, rv b17, iv z2, rv b231, lv p1, .second, lv p2, .second, lv p3, .second, lv p4, .second, rv (own_o w oi), rv b244, iv ze, .unset] [])) rfl (hb hby at_579) (by decide) (by decide)
      obtain ⟨b312, g312⟩ : ∃ z, z = T283.heap.size := ⟨_, rfl⟩
      rw [← g312] at A312 D312 st312
      have ne312__w_0_ : (w 0) ≠ b312 := Nat.ne_of_lt (Nat.lt_of_lt_of_le f313.lt (Nat.le_of_eq g312.symm))
      have ne312__w_1_ : (w 1) ≠ b312 := Nat.ne_of_lt (Nat.lt_of_lt_of_le f314.lt (Nat.le_of_eq g312.symm))
      have ne312__w_2_ : (w 2) ≠ b312 := Nat.ne_of_lt (Nat.lt_of_lt_of_le f315.lt (Nat.le_of_eq g312.symm))
      have ne312_b1 : b1 ≠ b312 := Nat.ne_of_lt (Nat.lt_of_lt_of_le f316.lt (Nat.le_of_eq g312.symm))
      have ne312_b17 : b17 ≠ b312 := Nat.ne_of_lt (Nat.lt_of_lt_of_le f317.lt (Nat.le_of_eq g312.symm))
      have ne312_b21 : b21 ≠ b312 := Nat.ne_of_lt (Nat.lt_of_lt_of_le f318.lt (Nat.le_of_eq g312.symm))
      have ne312_b26 : b26 ≠ b312 := Nat.ne_of_lt (Nat.lt_of_lt_of_le f319.lt (Nat.le_of_eq g312.symm))
      have ne312_t44 : t44 ≠ b312 := Nat.ne_of_lt (Nat.lt_of_lt_of_le f320.lt (Nat.le_of_eq g312.symm))
      have ne312_b231 : b231 ≠ b312 := Nat.ne_of_lt (Nat.lt_of_lt_of_le f321.lt (Nat.le_of_eq g312.symm))
      have ne312_b244 : b244 ≠ b312 := Nat.ne_of_lt (Nat.lt_of_lt_of_le f322.lt (Nat.le_of_eq g312.symm))
      have ne312_b252 : b252 ≠ b312 := Nat.ne_of_lt (Nat.lt_of_lt_of_le f323.lt (Nat.le_of_eq g312.symm))
      have ne312_t274 : t274 ≠ b312 := Nat.ne_of_lt (Nat.lt_of_lt_of_le f324.lt (Nat.le_of_eq g312.symm))
      have g_b312 : n0 ≤ b312 := Nat.le_trans Z283 (Nat.le_of_eq g312.symm)
      have sz_b312 : h0.size ≤ b312 := Nat.le_trans K283.1 (Nat.le_of_eq g312.symm)
      have F312_coder : Fld Z h312 b312 "java/lang/String" "coder" "B" (.int 0) := D312 (Or.inr (wd hw 40 rfl)) (ty := .byte) (by decide)
      have F312_value : Fld Z h312 b312 "java/lang/String" "value" "[B" .null := D312 (Or.inr (wd hw 42 rfl)) (ty := (.array .byte)) (by decide)
      have K312 : Keep h0 h312 [] := Keep.ext K283 E312
      have Z312 : n0 ≤ h312.size := Nat.le_trans Z283 E312.1
      refine Goes.by st312 ?_
      refine Goes.by (fun _ kz => XS.dup X312.here hx rfl (hb hby at_582) rfl rfl (XS.iconst X312.here hx rfl (hb hby at_583) kz)) ?_
      have f326 := (f313.ext E312)
      have f327 := (f314.ext E312)
      have f328 := (f315.ext E312)
      have f329 := (f316.ext E312)
      have f330 := (f317.ext E312)
      have f331 := (f318.ext E312)
      have f332 := (f319.ext E312)
      have f333 := (f320.ext E312)
      have f334 := (f321.ext E312)
      have f335 := (f322.ext E312)
      have f336 := (f323.ext E312)
      have f337 := (f324.ext E312)
      obtain ⟨T325, h325, k325, X325, e325, E325, A325, st325⟩ := newP X312 hx hZ (wd hw 16 rfl) e312 (g := (mkF m 584 #[lv p1, .second, lv p2, .second, lv p3, .second, lv p4, .second, iv p5, iv p6, rv b1, iv z1, iv z2, iv oi, iv oj, iv ch0, iv ch1, iv ch2, iv zB, iv 1, iv 3, rv b17, iv z2, rv b231, lv p1, .second, lv p2, .second, lv p3, .second, lv p4, .second, rv (own_o w oi), rv b244, iv ze, .unset] [(.int 1), (.ref b312), (.ref b312)])) rfl (hb hby at_584) rfl (by decide) (cap := 1) (by decide) (by decide) (by decide) (by decide)
      obtain ⟨b325, g325⟩ : ∃ z, z = h312.size := ⟨_, rfl⟩
      rw [← g325] at A325 st325
      have ne325__w_0_ : (w 0) ≠ b325 := Nat.ne_of_lt (Nat.lt_of_lt_of_le f326.lt (Nat.le_of_eq g325.symm))
      have ne325__w_1_ : (w 1) ≠ b325 := Nat.ne_of_lt (Nat.lt_of_lt_of_le f327.lt (Nat.le_of_eq g325.symm))
      have ne325__w_2_ : (w 2) ≠ b325 := Nat.ne_of_lt (Nat.lt_of_lt_of_le f328.lt (Nat.le_of_eq g325.symm))
      have ne325_b1 : b1 ≠ b325 := Nat.ne_of_lt (Nat.lt_of_lt_of_le f329.lt (Nat.le_of_eq g325.symm))
      have ne325_b17 : b17 ≠ b325 := Nat.ne_of_lt (Nat.lt_of_lt_of_le f330.lt (Nat.le_of_eq g325.symm))
      have ne325_b21 : b21 ≠ b325 := Nat.ne_of_lt (Nat.lt_of_lt_of_le f331.lt (Nat.le_of_eq g325.symm))
      have ne325_b26 : b26 ≠ b325 := Nat.ne_of_lt (Nat.lt_of_lt_of_le f332.lt (Nat.le_of_eq g325.symm))
      have ne325_t44 : t44 ≠ b325 := Nat.ne_of_lt (Nat.lt_of_lt_of_le f333.lt (Nat.le_of_eq g325.symm))
      have ne325_b231 : b231 ≠ b325 := Nat.ne_of_lt (Nat.lt_of_lt_of_le f334.lt (Nat.le_of_eq g325.symm))
      have ne325_b244 : b244 ≠ b325 := Nat.ne_of_lt (Nat.lt_of_lt_of_le f335.lt (Nat.le_of_eq g325.symm))
      have ne325_b252 : b252 ≠ b325 := Nat.ne_of_lt (Nat.lt_of_lt_of_le f336.lt (Nat.le_of_eq g325.symm))
      have ne325_t274 : t274 ≠ b325 := Nat.ne_of_lt (Nat.lt_of_lt_of_le f337.lt (Nat.le_of_eq g325.symm))
      have ne325_b312 : b312 ≠ b325 := Nat.ne_of_lt (Nat.lt_of_lt_of_le A312.lt (Nat.le_of_eq g325.symm))
      have g_b325 : n0 ≤ b325 := Nat.le_trans Z312 (Nat.le_of_eq g325.symm)
      have sz_b325 : h0.size ≤ b325 := Nat.le_trans K312.1 (Nat.le_of_eq g325.symm)
      have V325 : Arv Z h325 b325 k325 .char (1 : Int32) [(.int 0)] (.int 0) := (Arv.new A325 (by decide)).pad (pad_rep [] (.int 0) 1)
      have K325 : Keep h0 h325 [] := Keep.ext K312 E325
      have Z325 : n0 ≤ h325.size := Nat.le_trans Z312 E325.1
      refine Goes.by st325 ?_
      refine Goes.by (fun _ kz => XS.dup X325.here hx rfl (hb hby at_586) rfl rfl (XS.iconst X325.here hx rfl (hb hby at_587) (XS.iload X325.here hx rfl (hb hby at_588) rfl kz))) ?_
      obtain ⟨cl338, Ar338, Cq338, Sz338, Nn338, Hh338, Gg338⟩ := id V325
      have hin338 : ¬ ((0 : Int32) < 0 ∨ cl338.slots.size ≤ ((0 : Int32)).toNatClampNeg) := inb_of Sz338 ⟨by decide, by decide⟩
      obtain ⟨T338, h338, X338, e338, W338, st338⟩ := stC X325 hx hZ e325 Ar338 (j := (0 : Int32)) hin338 (g := (mkF m 590 #[lv p1, .second, lv p2, .second, lv p3, .second, lv p4, .second, iv p5, iv p6, rv b1, iv z1, iv z2, iv oi, iv oj, iv ch0, iv ch1, iv ch2, iv zB, iv 1, iv 3, rv b17, iv z2, rv b231, lv p1, .second, lv p2, .second, lv p3, .second, lv p4, .second, rv (own_o w oi), rv b244, iv ze, .unset] [(.int ch0), (.int 0), (.ref b325), (.ref b325), (.ref b312), (.ref b312)])) rfl rfl (hb hby at_590)
      have V338 : Arv Z h338 b325 k325 .char (1 : Int32) [(.int (nar .char ch0))] (.int 0) := Arv.set Ar338 Cq338 Sz338 Nn338 Hh338 Gg338 (fits_nar_char _) W338 0 rfl (Nat.le_of_ble_eq_true rfl)
      rw [hn_ch0] at V338
      have K338 : Keep h0 h338 [] := Keep.wr K325 W338 (Or.inr sz_b325)
      have Z338 : n0 ≤ h338.size := Nat.le_trans Z325 (Keep.of_wr W338).1
      have N338 := Fr.snoc X338 N283 g_b325
      refine Goes.by st338 ?_
      show Goes p e below (T338.setTop (mkF m 591 #[lv p1, .second, lv p2, .second, lv p3, .second, lv p4, .second, iv p5, iv p6, rv b1, iv z1, iv z2, iv oi, iv oj, iv ch0, iv ch1, iv ch2, iv zB, iv 1, iv 3, rv b17, iv z2, rv b231, lv p1, .second, lv p2, .second, lv p3, .second, lv p4, .second, rv (own_o w oi), rv b244, iv ze, .unset] [(.ref b325), (.ref b312), (.ref b312)])) _
      have f339 := (Exa.wr W338 (A312.ext E325))
      have f340 := (Fld.other W338 (F312_value.ext E325) (Or.inl ne325_b312))
      have f341 := (Fld.other W338 (F312_coder.ext E325) (Or.inl ne325_b312))
      have f342 := (Sta.wr W338 (((own_staKeep (own_staKeep f263 Kq274 (allS (own_nsE A252) all0)) Kq283 (allS (own_nsE f275) all0)).ext E312).ext E325))
      have f343 := (Exa.wr W338 (f326.ext E325))
      have f344 := (Exa.wr W338 (f327.ext E325))
      have f345 := (Exa.wr W338 (f328.ext E325))
      have f346 := ((f329.ext E325).other W338 ne325_b1)
      have f347 := (Exa.wr W338 (f330.ext E325))
      have f348 := (Exa.wr W338 (f331.ext E325))
      have f349 := ((f332.ext E325).other W338 ne325_b26)
      have f350 := ((f333.ext E325).other W338 ne325_t44)
      have f351 := ((f334.ext E325).other W338 ne325_b231)
      have f352 := (Exa.wr W338 (f335.ext E325))
      have f353 := (Exa.wr W338 (f336.ext E325))
      have f354 := ((f337.ext E325).other W338 ne325_t274)
      have hp355 : ∀ c ∈ ([ch0] : List Int32), ¬ c < 0 ∧ ¬ (255 : Int32) < c := by
        intro c hc; simp only [List.mem_cons, List.not_mem_nil, or_false] at hc
        rw [hc]; exact hb_ch0
      have hcd355 : StrChars.Road.CodA ([ch0] : List Int32) 0 (1 : Int32) ((([ch0] : List Int32).map (fun c => c.toInt8.toInt32)).map Value.int) := StrChars.Road.codOf (n := 1) rfl (fun c hc => (hp355 c hc).2)
      have hbd355 := own_up _ hp355
      obtain ⟨_, _, ⟨T356, L356, k356, n356⟩, -, X356, ⟨Lc356, hQ356, l356, y356, z356⟩, st356⟩ := X338.specialBack hx (y := (⟨"java/lang/String", "<init>", "([C)V"⟩ : MethodName)) rfl hown (mvT hZ (wd hw 17 rfl)) (mvT hZ (wd hw 18 rfl)) (mvT hZ (wd hw 19 rfl)) (by decide) (StrChars.Road.backV (W := 1) hZ hws (kI := 4) (wd hw 14 rfl) (cs := ([ch0] : List Int32)) (bs := (([ch0] : List Int32).map (fun c => c.toInt8.toInt32))) (n := 1) g_b312 Z338 f339 f340 f341 V338 f342 hzc rfl rfl (by decide) (by decide) hp355 rfl (by decide) (by decide)) (g := (mkF m 591 #[lv p1, .second, lv p2, .second, lv p3, .second, lv p4, .second, iv p5, iv p6, rv b1, iv z1, iv z2, iv oi, iv oj, iv ch0, iv ch1, iv ch2, iv zB, iv 1, iv 3, rv b17, iv z2, rv b231, lv p1, .second, lv p2, .second, lv p3, .second, lv p4, .second, rv (own_o w oi), rv b244, iv ze, .unset] [(.ref b325), (.ref b312), (.ref b312)])) rfl (by rw [hml]; rfl) (Steps.refl _) (a := b312) (argsL := [(.ref b325)]) (rest := [(.ref b312)]) (lenOf pd0 rfl) rfl (by show 2 * 0 + _ ≤ _; exact Nat.le_of_eq rfl) (hb hby at_591) (fun _ _ => ⟨rfl, e338, (by decide : 11 + 1 ≤ _), (by decide : 38 + 1 ≤ _)⟩)
      dsimp only [Pt.U, Pt.locs, Pt.cells, Pt.slots] at X356 l356 y356 z356 st356 hQ356
      subst l356 y356 z356
      obtain ⟨rfl, Nq356, Kq356, gE356, gC356, t356, kb356, u1_356, u2_356, u3_356, gV356, gA356⟩ := hQ356
      have K356 : Keep h0 T356.heap [] := Keep.trans K338 Kq356 (allS (Or.inr sz_b312) all0)
      have Z356 : n0 ≤ T356.heap.size := Nat.le_trans Z338 Kq356.1
      have net356__w_0_ : (w 0) ≠ t356 := Nat.ne_of_lt (Nat.lt_of_lt_of_le f343.lt u2_356)
      have net356__w_1_ : (w 1) ≠ t356 := Nat.ne_of_lt (Nat.lt_of_lt_of_le f344.lt u2_356)
      have net356__w_2_ : (w 2) ≠ t356 := Nat.ne_of_lt (Nat.lt_of_lt_of_le f345.lt u2_356)
      have net356_b1 : b1 ≠ t356 := Nat.ne_of_lt (Nat.lt_of_lt_of_le f346.lt u2_356)
      have net356_b17 : b17 ≠ t356 := Nat.ne_of_lt (Nat.lt_of_lt_of_le f347.lt u2_356)
      have net356_b21 : b21 ≠ t356 := Nat.ne_of_lt (Nat.lt_of_lt_of_le f348.lt u2_356)
      have net356_b26 : b26 ≠ t356 := Nat.ne_of_lt (Nat.lt_of_lt_of_le f349.lt u2_356)
      have net356_t44 : t44 ≠ t356 := Nat.ne_of_lt (Nat.lt_of_lt_of_le f350.lt u2_356)
      have net356_b231 : b231 ≠ t356 := Nat.ne_of_lt (Nat.lt_of_lt_of_le f351.lt u2_356)
      have net356_b244 : b244 ≠ t356 := Nat.ne_of_lt (Nat.lt_of_lt_of_le f352.lt u2_356)
      have net356_b252 : b252 ≠ t356 := Nat.ne_of_lt (Nat.lt_of_lt_of_le f353.lt u2_356)
      have net356_t274 : t274 ≠ t356 := Nat.ne_of_lt (Nat.lt_of_lt_of_le f354.lt u2_356)
      have net356_b312 : b312 ≠ t356 := Nat.ne_of_lt (Nat.lt_of_lt_of_le f339.lt u2_356)
      have net356_b325 : b325 ≠ t356 := Nat.ne_of_lt (Nat.lt_of_lt_of_le V338.lt u2_356)
      have g_t356 : n0 ≤ t356 := Nat.le_trans Z338 u2_356
      have sz_t356 : h0.size ≤ t356 := Nat.le_trans K338.1 u2_356
      have N356 := Fr.app N338 Nq356
      refine Goes.tr st356 ?_
      refine Goes.by (fun _ kz => XS.astore X356.here hx rfl (hb hby at_594) rfl rfl rfl (XS.aload X356.here hx rfl (hb hby at_596) rfl rfl (XS.aload X356.here hx rfl (hb hby at_598) rfl rfl kz))) ?_
      have f357 := (f339.keep Kq356)
      have f359 := (f347.keep Kq356)
      obtain ⟨cq358, kq358, q358a, q358b, q358c⟩ := isOf hZ rfl f359
      obtain ⟨_, _, ⟨T358, L358, k358, n358⟩, -, X358, ⟨Lc358, hQ358, l358, y358, z358⟩, st358⟩ := X356.virtualBack hx (y := (⟨"com/example/killdeer/killdeer/GadgetView", "equals", "(Ljava/lang/Object;)Z"⟩ : MethodName)) (z := (⟨"com/example/killdeer/killdeer/GadgetView", "equals", "(Ljava/lang/Object;)Z"⟩ : MethodName)) hown (mvT hZ (wd hw 61 rfl)) (mvT hZ (wd hw 62 rfl)) (notFace_of_selects (args := #[]) (mvT hZ (wd hw 64 rfl))) (mvT hZ (wd hw 64 rfl)) (mvT hZ (wd hw 63 rfl)) (by decide) (backOf (W := 0) (r8_str l Z a0 hw [] T356.heap n0 Z356 b17 b312 f357 ne312_b17) hZ (wd hw 65 rfl) (wd hw 12 rfl) (by decide) (by decide)) q358a q358c (g := (mkF m 600 #[lv p1, .second, lv p2, .second, lv p3, .second, lv p4, .second, iv p5, iv p6, rv b1, iv z1, iv z2, iv oi, iv oj, iv ch0, iv ch1, iv ch2, iv zB, iv 1, iv 3, rv b17, iv z2, rv b231, lv p1, .second, lv p2, .second, lv p3, .second, lv p4, .second, rv (own_o w oi), rv b244, iv ze, rv b312] [(.ref b312), (.ref b17)])) rfl (by rw [hml]; rfl) (Steps.refl _) (argsL := [(.ref b312)]) (rest := []) (lenOf pd2 rfl) rfl (by show 2 * 0 + _ ≤ _; exact Nat.le_of_eq rfl) (hb hby at_600) (fun _ _ => ⟨rfl, rfl, (by decide : 12 + 0 ≤ _), (by decide : 39 + 0 ≤ _)⟩)
      dsimp only [Pt.U, Pt.locs, Pt.cells, Pt.slots] at X358 l358 y358 z358 st358 hQ358
      subst l358 y358 z358
      obtain ⟨rfl, Nq358, e358⟩ := hQ358
      have N358 := Fr.app N356 Nq358
      refine Goes.tr st358 ?_
      refine Goes.by (fun _ kz => XS.ifNo X358.here hx rfl (hb hby at_603) rfl ((if0 _ _).trans (teq (by decide : (0 : Int32) = (0 : Int32))).2) (XS.iconst X358.here hx rfl (hb hby at_606) (XS.goto X358.here hx rfl (pc0 := 607) (pc' := 611) rfl (hb hby at_607) (by decide) (by decide) kz))) ?_
      show Goes p e below (T358.setTop (mkF m 611 #[lv p1, .second, lv p2, .second, lv p3, .second, lv p4, .second, iv p5, iv p6, rv b1, iv z1, iv z2, iv oi, iv oj, iv ch0, iv ch1, iv ch2, iv zB, iv 1, iv 3, rv b17, iv z2, rv b231, lv p1, .second, lv p2, .second, lv p3, .second, lv p4, .second, rv (own_o w oi), rv b244, iv ze, rv b312] [(.int 1)])) _
      obtain ⟨fs, hr, hrun, hended, hW, hsame⟩ := X358.leave (v := some (.int 1)) (fun h => by rw [Bd.returns] at h; cases h)
      exact ⟨_, _, retN X358 hx (t := .boolean) Bd.returns (by simp) (hb hby at_611) hr, hrun, hended, _, _, rfl, ⟨rfl, N358⟩, ⟨_, rfl⟩, hW, hsame.mono (by decide) (by decide)⟩
  · show Goes p e below (T81.setTop (mkF m 186 #[lv p1, .second, lv p2, .second, lv p3, .second, lv p4, .second, iv p5, iv p6, rv b1, iv z1, iv z2, iv oi, iv oj, iv ch0, iv ch1, iv ch2, iv zB, iv 2, iv (((p6.toUInt32 >>> ((4 : Int32) &&& 31).toUInt32).toInt32) &&& (3 : Int32)), rv b17, .unset, .unset, .unset, .unset, .unset, .unset, .unset, .unset, .unset, .unset, .unset, .unset, .unset, .unset] [])) _
    refine Goes.by (fun _ kz => XS.iload X81.here hx rfl (hb hby at_186) rfl (XS.iconst X81.here hx rfl (hb hby at_188) (XS.icmpYes X81.here hx rfl (pc0 := 189) (pc' := 197) rfl (hb hby at_189) rfl (feq (by decide : ¬ ((2 : Int32) = (1 : Int32)))).2 (by decide) (by decide) kz))) ?_
    show Goes p e below (T81.setTop (mkF m 197 #[lv p1, .second, lv p2, .second, lv p3, .second, lv p4, .second, iv p5, iv p6, rv b1, iv z1, iv z2, iv oi, iv oj, iv ch0, iv ch1, iv ch2, iv zB, iv 2, iv (((p6.toUInt32 >>> ((4 : Int32) &&& 31).toUInt32).toInt32) &&& (3 : Int32)), rv b17, .unset, .unset, .unset, .unset, .unset, .unset, .unset, .unset, .unset, .unset, .unset, .unset, .unset, .unset] [])) _
    refine Goes.by (fun _ kz => XS.iload X81.here hx rfl (hb hby at_197) rfl (XS.istore X81.here hx rfl (hb hby at_199) rfl rfl (XS.iload X81.here hx rfl (hb hby at_201) rfl kz))) ?_
    show Goes p e below (T81.setTop (mkF m 203 #[lv p1, .second, lv p2, .second, lv p3, .second, lv p4, .second, iv p5, iv p6, rv b1, iv z1, iv z2, iv oi, iv oj, iv ch0, iv ch1, iv ch2, iv zB, iv 2, iv (((p6.toUInt32 >>> ((4 : Int32) &&& 31).toUInt32).toInt32) &&& (3 : Int32)), rv b17, iv z1, .unset, .unset, .unset, .unset, .unset, .unset, .unset, .unset, .unset, .unset, .unset, .unset, .unset] [(.int 2)])) _
    refine Goes.by (fun _ kz => XS.iconst X81.here hx rfl (hb hby at_203) (XS.icmpNo X81.here hx rfl (hb hby at_204) rfl (teq (by decide : (2 : Int32) = (2 : Int32))).2 (XS.iload X81.here hx rfl (hb hby at_207) rfl kz))) ?_
    show Goes p e below (T81.setTop (mkF m 209 #[lv p1, .second, lv p2, .second, lv p3, .second, lv p4, .second, iv p5, iv p6, rv b1, iv z1, iv z2, iv oi, iv oj, iv ch0, iv ch1, iv ch2, iv zB, iv 2, iv (((p6.toUInt32 >>> ((4 : Int32) &&& 31).toUInt32).toInt32) &&& (3 : Int32)), rv b17, iv z1, .unset, .unset, .unset, .unset, .unset, .unset, .unset, .unset, .unset, .unset, .unset, .unset, .unset] [(.int zB)])) _
    by_cases hc360 : zB = (0 : Int32)
    · refine Goes.by (fun _ kz => XS.ifYes X81.here hx rfl (pc0 := 209) (pc' := 225) rfl (hb hby at_209) rfl ((if0 _ _).trans (teq hc360).1) (by decide) (by decide) (XS.iconst X81.here hx rfl (hb hby at_225) kz)) ?_
      have f362 := ((f38.keep Kq44).keep Kq81)
      have f363 := ((f39.keep Kq44).keep Kq81)
      have f364 := ((f40.keep Kq44).keep Kq81)
      have f365 := (f46.keep Kq81 (ninS ne17_b1 nin0))
      have f366 := (f73.keep Kq81)
      have f367 := ((f34.keep Kq44).keep Kq81)
      have f368 := ((V33.keep Kq44 (ninS (Ne.symm ne26_b21) nin0)).keep Kq81 (ninS (Ne.symm ne26_b17) nin0))
      have f369 := (gA44.keep Kq81 (ninS (Ne.symm net44_b17) nin0))
      obtain ⟨T361, h361, k361, X361, e361, E361, A361, st361⟩ := newP X81 hx hZ (wd hw 16 rfl) rfl (g := (mkF m 226 #[lv p1, .second, lv p2, .second, lv p3, .second, lv p4, .second, iv p5, iv p6, rv b1, iv z1, iv z2, iv oi, iv oj, iv ch0, iv ch1, iv ch2, iv zB, iv 2, iv (((p6.toUInt32 >>> ((4 : Int32) &&& 31).toUInt32).toInt32) &&& (3 : Int32)), rv b17, iv z1, .unset, .unset, .unset, .unset, .unset, .unset, .unset, .unset, .unset, .unset, .unset, .unset, .unset] [(.int 2)])) rfl (hb hby at_226) rfl (by decide) (cap := 2) (by decide) (by decide) (by decide) (by decide)
      obtain ⟨b361, g361⟩ : ∃ z, z = T81.heap.size := ⟨_, rfl⟩
      rw [← g361] at A361 st361
      have ne361__w_0_ : (w 0) ≠ b361 := Nat.ne_of_lt (Nat.lt_of_lt_of_le f362.lt (Nat.le_of_eq g361.symm))
      have ne361__w_1_ : (w 1) ≠ b361 := Nat.ne_of_lt (Nat.lt_of_lt_of_le f363.lt (Nat.le_of_eq g361.symm))
      have ne361__w_2_ : (w 2) ≠ b361 := Nat.ne_of_lt (Nat.lt_of_lt_of_le f364.lt (Nat.le_of_eq g361.symm))
      have ne361_b1 : b1 ≠ b361 := Nat.ne_of_lt (Nat.lt_of_lt_of_le f365.lt (Nat.le_of_eq g361.symm))
      have ne361_b17 : b17 ≠ b361 := Nat.ne_of_lt (Nat.lt_of_lt_of_le f366.lt (Nat.le_of_eq g361.symm))
      have ne361_b21 : b21 ≠ b361 := Nat.ne_of_lt (Nat.lt_of_lt_of_le f367.lt (Nat.le_of_eq g361.symm))
      have ne361_b26 : b26 ≠ b361 := Nat.ne_of_lt (Nat.lt_of_lt_of_le f368.lt (Nat.le_of_eq g361.symm))
      have ne361_t44 : t44 ≠ b361 := Nat.ne_of_lt (Nat.lt_of_lt_of_le f369.lt (Nat.le_of_eq g361.symm))
      have g_b361 : n0 ≤ b361 := Nat.le_trans Z81 (Nat.le_of_eq g361.symm)
      have sz_b361 : h0.size ≤ b361 := Nat.le_trans K81.1 (Nat.le_of_eq g361.symm)
      have V361 : Arv Z h361 b361 k361 .char (2 : Int32) [(.int 0), (.int 0)] (.int 0) := (Arv.new A361 (by decide)).pad (pad_rep [] (.int 0) 2)
      have K361 : Keep h0 h361 [] := Keep.ext K81 E361
      have Z361 : n0 ≤ h361.size := Nat.le_trans Z81 E361.1
      refine Goes.by st361 ?_
      refine Goes.by (fun _ kz => XS.dup X361.here hx rfl (hb hby at_228) rfl rfl (XS.iconst X361.here hx rfl (hb hby at_229) (XS.iload X361.here hx rfl (hb hby at_230) rfl kz))) ?_
      obtain ⟨cl370, Ar370, Cq370, Sz370, Nn370, Hh370, Gg370⟩ := id V361
      have hin370 : ¬ ((0 : Int32) < 0 ∨ cl370.slots.size ≤ ((0 : Int32)).toNatClampNeg) := inb_of Sz370 ⟨by decide, by decide⟩
      obtain ⟨T370, h370, X370, e370, W370, st370⟩ := stC X361 hx hZ e361 Ar370 (j := (0 : Int32)) hin370 (g := (mkF m 232 #[lv p1, .second, lv p2, .second, lv p3, .second, lv p4, .second, iv p5, iv p6, rv b1, iv z1, iv z2, iv oi, iv oj, iv ch0, iv ch1, iv ch2, iv zB, iv 2, iv (((p6.toUInt32 >>> ((4 : Int32) &&& 31).toUInt32).toInt32) &&& (3 : Int32)), rv b17, iv z1, .unset, .unset, .unset, .unset, .unset, .unset, .unset, .unset, .unset, .unset, .unset, .unset, .unset] [(.int ch0), (.int 0), (.ref b361), (.ref b361)])) rfl rfl (hb hby at_232)
      have V370 : Arv Z h370 b361 k361 .char (2 : Int32) [(.int (nar .char ch0)), (.int 0)] (.int 0) := Arv.set Ar370 Cq370 Sz370 Nn370 Hh370 Gg370 (fits_nar_char _) W370 0 rfl (Nat.le_of_ble_eq_true rfl)
      rw [hn_ch0] at V370
      have K370 : Keep h0 h370 [] := Keep.wr K361 W370 (Or.inr sz_b361)
      have Z370 : n0 ≤ h370.size := Nat.le_trans Z361 (Keep.of_wr W370).1
      have N370 := Fr.snoc X370 N81 g_b361
      refine Goes.by st370 ?_
      refine Goes.by (fun _ kz => XS.dup X370.here hx rfl (hb hby at_233) rfl rfl (XS.iconst X370.here hx rfl (hb hby at_234) (XS.iload X370.here hx rfl (hb hby at_235) rfl kz))) ?_
      obtain ⟨cl371, Ar371, Cq371, Sz371, Nn371, Hh371, Gg371⟩ := id V370
      have hin371 : ¬ ((1 : Int32) < 0 ∨ cl371.slots.size ≤ ((1 : Int32)).toNatClampNeg) := inb_of Sz371 ⟨by decide, by decide⟩
      obtain ⟨T371, h371, X371, e371, W371, st371⟩ := stC X370 hx hZ e370 Ar371 (j := (1 : Int32)) hin371 (g := (mkF m 237 #[lv p1, .second, lv p2, .second, lv p3, .second, lv p4, .second, iv p5, iv p6, rv b1, iv z1, iv z2, iv oi, iv oj, iv ch0, iv ch1, iv ch2, iv zB, iv 2, iv (((p6.toUInt32 >>> ((4 : Int32) &&& 31).toUInt32).toInt32) &&& (3 : Int32)), rv b17, iv z1, .unset, .unset, .unset, .unset, .unset, .unset, .unset, .unset, .unset, .unset, .unset, .unset, .unset] [(.int ch2), (.int 1), (.ref b361), (.ref b361)])) rfl rfl (hb hby at_237)
      have V371 : Arv Z h371 b361 k361 .char (2 : Int32) [(.int ch0), (.int (nar .char ch2))] (.int 0) := Arv.set Ar371 Cq371 Sz371 Nn371 Hh371 Gg371 (fits_nar_char _) W371 1 rfl (Nat.le_of_ble_eq_true rfl)
      rw [hn_ch2] at V371
      have K371 : Keep h0 h371 [] := Keep.wr K370 W371 (Or.inr sz_b361)
      have Z371 : n0 ≤ h371.size := Nat.le_trans Z370 (Keep.of_wr W371).1
      have N371 := Fr.snoc X371 N370 g_b361
      refine Goes.by st371 ?_
      refine Goes.by (fun _ kz => XS.astore X371.here hx rfl (hb hby at_238) rfl rfl rfl (XS.goto X371.here hx rfl (pc0 := 240) (pc' := 258) rfl (hb hby at_240) (by decide) (by decide) (XS.iload X371.here hx rfl (hb hby at_258) rfl kz))) ?_
      show Goes p e below (T371.setTop (mkF m 260 #[lv p1, .second, lv p2, .second, lv p3, .second, lv p4, .second, iv p5, iv p6, rv b1, iv z1, iv z2, iv oi, iv oj, iv ch0, iv ch1, iv ch2, iv zB, iv 2, iv (((p6.toUInt32 >>> ((4 : Int32) &&& 31).toUInt32).toInt32) &&& (3 : Int32)), rv b17, iv z1, rv b361, .unset, .unset, .unset, .unset, .unset, .unset, .unset, .unset, .unset, .unset, .unset, .unset] [(.int 2)])) _
      refine Goes.by (fun _ kz => XS.iconst X371.here hx rfl (hb hby at_260) (XS.icmpYes X371.here hx rfl (pc0 := 261) (pc' := 269) rfl (hb hby at_261) rfl (feq (by decide : ¬ ((2 : Int32) = (3 : Int32)))).2 (by decide) (by decide) (XS.lloadN X371.here hx rfl (hb hby at_269) rfl kz))) ?_
      show Goes p e below (T371.setTop (mkF m 270 #[lv p1, .second, lv p2, .second, lv p3, .second, lv p4, .second, iv p5, iv p6, rv b1, iv z1, iv z2, iv oi, iv oj, iv ch0, iv ch1, iv ch2, iv zB, iv 2, iv (((p6.toUInt32 >>> ((4 : Int32) &&& 31).toUInt32).toInt32) &&& (3 : Int32)), rv b17, iv z1, rv b361, .unset, .unset, .unset, .unset, .unset, .unset, .unset, .unset, .unset, .unset, .unset, .unset] [(.long p1)])) _
      refine Goes.by (fun _ kz => XS.lstore X371.here hx rfl (hb hby at_270) rfl rfl (XS.iload X371.here hx rfl (hb hby at_272) rfl (XS.iconst X371.here hx rfl (hb hby at_274) kz))) ?_
      show Goes p e below (T371.setTop (mkF m 275 #[lv p1, .second, lv p2, .second, lv p3, .second, lv p4, .second, iv p5, iv p6, rv b1, iv z1, iv z2, iv oi, iv oj, iv ch0, iv ch1, iv ch2, iv zB, iv 2, iv (((p6.toUInt32 >>> ((4 : Int32) &&& 31).toUInt32).toInt32) &&& (3 : Int32)), rv b17, iv z1, rv b361, lv p1, .second, .unset, .unset, .unset, .unset, .unset, .unset, .unset, .unset, .unset, .unset] [(.int 4), (.int 2)])) _
      refine Goes.by (fun _ kz => XS.icmpYes X371.here hx rfl (pc0 := 275) (pc' := 283) rfl (hb hby at_275) rfl (feq (by decide : ¬ ((2 : Int32) = (4 : Int32)))).2 (by decide) (by decide) (XS.lloadN X371.here hx rfl (hb hby at_283) rfl (XS.lstore X371.here hx rfl (hb hby at_284) rfl rfl kz))) ?_
      show Goes p e below (T371.setTop (mkF m 286 #[lv p1, .second, lv p2, .second, lv p3, .second, lv p4, .second, iv p5, iv p6, rv b1, iv z1, iv z2, iv oi, iv oj, iv ch0, iv ch1, iv ch2, iv zB, iv 2, iv (((p6.toUInt32 >>> ((4 : Int32) &&& 31).toUInt32).toInt32) &&& (3 : Int32)), rv b17, iv z1, rv b361, lv p1, .second, lv p2, .second, .unset, .unset, .unset, .unset, .unset, .unset, .unset, .unset] [])) _
      refine Goes.by (fun _ kz => XS.iload X371.here hx rfl (hb hby at_286) rfl (XS.iconst X371.here hx rfl (hb hby at_288) (XS.icmpYes X371.here hx rfl (pc0 := 289) (pc' := 297) rfl (hb hby at_289) rfl (feq (by decide : ¬ ((2 : Int32) = (5 : Int32)))).2 (by decide) (by decide) kz))) ?_
      show Goes p e below (T371.setTop (mkF m 297 #[lv p1, .second, lv p2, .second, lv p3, .second, lv p4, .second, iv p5, iv p6, rv b1, iv z1, iv z2, iv oi, iv oj, iv ch0, iv ch1, iv ch2, iv zB, iv 2, iv (((p6.toUInt32 >>> ((4 : Int32) &&& 31).toUInt32).toInt32) &&& (3 : Int32)), rv b17, iv z1, rv b361, lv p1, .second, lv p2, .second, .unset, .unset, .unset, .unset, .unset, .unset, .unset, .unset] [])) _
      refine Goes.by (fun _ kz => XS.lload X371.here hx rfl (hb hby at_297) rfl (XS.lstore X371.here hx rfl (hb hby at_299) rfl rfl (XS.iload X371.here hx rfl (hb hby at_301) rfl kz))) ?_
      show Goes p e below (T371.setTop (mkF m 303 #[lv p1, .second, lv p2, .second, lv p3, .second, lv p4, .second, iv p5, iv p6, rv b1, iv z1, iv z2, iv oi, iv oj, iv ch0, iv ch1, iv ch2, iv zB, iv 2, iv (((p6.toUInt32 >>> ((4 : Int32) &&& 31).toUInt32).toInt32) &&& (3 : Int32)), rv b17, iv z1, rv b361, lv p1, .second, lv p2, .second, lv p3, .second, .unset, .unset, .unset, .unset, .unset, .unset] [(.int 2)])) _
      refine Goes.by (fun _ kz => XS.bipush X371.here hx rfl (hb hby at_303) (XS.icmpYes X371.here hx rfl (pc0 := 305) (pc' := 312) rfl (hb hby at_305) rfl (feq (by decide : ¬ ((2 : Int32) = (6 : Int32)))).2 (by decide) (by decide) (XS.lload X371.here hx rfl (hb hby at_312) rfl kz))) ?_
      show Goes p e below (T371.setTop (mkF m 314 #[lv p1, .second, lv p2, .second, lv p3, .second, lv p4, .second, iv p5, iv p6, rv b1, iv z1, iv z2, iv oi, iv oj, iv ch0, iv ch1, iv ch2, iv zB, iv 2, iv (((p6.toUInt32 >>> ((4 : Int32) &&& 31).toUInt32).toInt32) &&& (3 : Int32)), rv b17, iv z1, rv b361, lv p1, .second, lv p2, .second, lv p3, .second, .unset, .unset, .unset, .unset, .unset, .unset] [(.long p4)])) _
      refine Goes.by (fun _ kz => XS.lstore X371.here hx rfl (hb hby at_314) rfl rfl (XS.iload X371.here hx rfl (hb hby at_316) rfl (XS.bipush X371.here hx rfl (hb hby at_318) kz))) ?_
      show Goes p e below (T371.setTop (mkF m 320 #[lv p1, .second, lv p2, .second, lv p3, .second, lv p4, .second, iv p5, iv p6, rv b1, iv z1, iv z2, iv oi, iv oj, iv ch0, iv ch1, iv ch2, iv zB, iv 2, iv (((p6.toUInt32 >>> ((4 : Int32) &&& 31).toUInt32).toInt32) &&& (3 : Int32)), rv b17, iv z1, rv b361, lv p1, .second, lv p2, .second, lv p3, .second, lv p4, .second, .unset, .unset, .unset, .unset] [(.int 7), (.int 2)])) _
      refine Goes.by (fun _ kz => XS.icmpYes X371.here hx rfl (pc0 := 320) (pc' := 331) rfl (hb hby at_320) rfl (feq (by decide : ¬ ((2 : Int32) = (7 : Int32)))).2 (by decide) (by decide) (XS.aload X371.here hx rfl (hb hby at_331) rfl rfl (XS.iload X371.here hx rfl (hb hby at_333) rfl kz))) ?_
      show Goes p e below (T371.setTop (mkF m 335 #[lv p1, .second, lv p2, .second, lv p3, .second, lv p4, .second, iv p5, iv p6, rv b1, iv z1, iv z2, iv oi, iv oj, iv ch0, iv ch1, iv ch2, iv zB, iv 2, iv (((p6.toUInt32 >>> ((4 : Int32) &&& 31).toUInt32).toInt32) &&& (3 : Int32)), rv b17, iv z1, rv b361, lv p1, .second, lv p2, .second, lv p3, .second, lv p4, .second, .unset, .unset, .unset, .unset] [(.int oi), (.ref b1)])) _
      have f373 := (((f365.ext E361).other W370 ne361_b1).other W371 ne361_b1)
      obtain ⟨cl372, Ar372, Cq372, Sz372, Nn372, Hh372, Gg372⟩ := id f373
      have hin372 : ¬ (oi < 0 ∨ cl372.slots.size ≤ (oi).toNatClampNeg) := inb_of Sz372 (own_i3 h_oi)
      have hat372 : cl372.slots[(oi).toNatClampNeg]? = some (.ref (own_o w oi)) := Has.at Hh372 hin372 (by rcases h_oi with h | h | h <;> rw [h] <;> rfl)
      refine Goes.by (fun _ kz => X371.aaload hx (j := oi) (v := (.ref (own_o w oi))) (by rw [e371]; exact Ar372.1) (State.isArrayOf_alike hZ.alike Ar372.2.1) rfl Ar372.2.2 hin372 hat372 (g := (mkF m 335 #[lv p1, .second, lv p2, .second, lv p3, .second, lv p4, .second, iv p5, iv p6, rv b1, iv z1, iv z2, iv oi, iv oj, iv ch0, iv ch1, iv ch2, iv zB, iv 2, iv (((p6.toUInt32 >>> ((4 : Int32) &&& 31).toUInt32).toInt32) &&& (3 : Int32)), rv b17, iv z1, rv b361, lv p1, .second, lv p2, .second, lv p3, .second, lv p4, .second, .unset, .unset, .unset, .unset] [(.int oi), (.ref b1)])) rfl rfl (hb hby at_335) _ (XS.astore X371.here hx rfl (hb hby at_336) rfl rfl rfl kz)) ?_
      have f375 := (Exa.wr W371 (Exa.wr W370 (f362.ext E361)))
      have f376 := (Exa.wr W371 (Exa.wr W370 (f363.ext E361)))
      have f377 := (Exa.wr W371 (Exa.wr W370 (f364.ext E361)))
      have f378 := (Exa.wr W371 (Exa.wr W370 (f366.ext E361)))
      have f379 := (Exa.wr W371 (Exa.wr W370 (f367.ext E361)))
      have f380 := (((f368.ext E361).other W370 ne361_b26).other W371 ne361_b26)
      have f381 := (((f369.ext E361).other W370 ne361_t44).other W371 ne361_t44)
      obtain ⟨T374, h374, X374, e374, E374, A374, D374, -, st374⟩ := newO X371 hx hZ hown (wd hw 10 rfl) (wd hw 11 rfl) (wd hw 12 rfl) e371 (g := (mkF m 338 #[lv p1, .second, lv p2, .second, lv p3, .second, lv p4, .second, iv p5, iv p6, rv b1, iv z1, iv z2, iv oi, iv oj, iv ch0, iv ch1, iv ch2, iv zB, iv 2, iv (((p6.toUInt32 >>> ((4 : Int32) &&& 31).toUInt32).toInt32) &&& (3 : Int32)), rv b17, iv z1, rv b361, lv p1, .second, lv p2, .second, lv p3, .second, lv p4, .second, rv (own_o w oi), .unset, .unset, .unset] [])) rfl (hb hby at_338) (by decide) (by decide)
      obtain ⟨b374, g374⟩ : ∃ z, z = h371.size := ⟨_, rfl⟩
      rw [← g374] at A374 D374 st374
      have ne374__w_0_ : (w 0) ≠ b374 := Nat.ne_of_lt (Nat.lt_of_lt_of_le f375.lt (Nat.le_of_eq g374.symm))
      have ne374__w_1_ : (w 1) ≠ b374 := Nat.ne_of_lt (Nat.lt_of_lt_of_le f376.lt (Nat.le_of_eq g374.symm))
      have ne374__w_2_ : (w 2) ≠ b374 := Nat.ne_of_lt (Nat.lt_of_lt_of_le f377.lt (Nat.le_of_eq g374.symm))
      have ne374_b1 : b1 ≠ b374 := Nat.ne_of_lt (Nat.lt_of_lt_of_le f373.lt (Nat.le_of_eq g374.symm))
      have ne374_b17 : b17 ≠ b374 := Nat.ne_of_lt (Nat.lt_of_lt_of_le f378.lt (Nat.le_of_eq g374.symm))
      have ne374_b21 : b21 ≠ b374 := Nat.ne_of_lt (Nat.lt_of_lt_of_le f379.lt (Nat.le_of_eq g374.symm))
      have ne374_b26 : b26 ≠ b374 := Nat.ne_of_lt (Nat.lt_of_lt_of_le f380.lt (Nat.le_of_eq g374.symm))
      have ne374_t44 : t44 ≠ b374 := Nat.ne_of_lt (Nat.lt_of_lt_of_le f381.lt (Nat.le_of_eq g374.symm))
      have ne374_b361 : b361 ≠ b374 := Nat.ne_of_lt (Nat.lt_of_lt_of_le V371.lt (Nat.le_of_eq g374.symm))
      have g_b374 : n0 ≤ b374 := Nat.le_trans Z371 (Nat.le_of_eq g374.symm)
      have sz_b374 : h0.size ≤ b374 := Nat.le_trans K371.1 (Nat.le_of_eq g374.symm)
      have F374_visible : Fld Z h374 b374 "com/example/killdeer/killdeer/GadgetView" "visible" "Z" (.int 0) := D374 (Or.inr (wd hw 48 rfl)) (ty := .boolean) (by decide)
      have F374_appearance : Fld Z h374 b374 "com/example/killdeer/killdeer/GadgetView" "appearance" "Ljava/lang/String;" .null := D374 (Or.inr (wd hw 50 rfl)) (ty := (.object "java/lang/String")) (by decide)
      have F374_x : Fld Z h374 b374 "com/example/killdeer/killdeer/GadgetView" "x" "J" (.long 0) := D374 (Or.inr (wd hw 52 rfl)) (ty := .long) (by decide)
      have F374_y : Fld Z h374 b374 "com/example/killdeer/killdeer/GadgetView" "y" "J" (.long 0) := D374 (Or.inr (wd hw 54 rfl)) (ty := .long) (by decide)
      have F374_width : Fld Z h374 b374 "com/example/killdeer/killdeer/GadgetView" "width" "J" (.long 0) := D374 (Or.inr (wd hw 56 rfl)) (ty := .long) (by decide)
      have F374_height : Fld Z h374 b374 "com/example/killdeer/killdeer/GadgetView" "height" "J" (.long 0) := D374 (Or.inr (wd hw 58 rfl)) (ty := .long) (by decide)
      have F374_obscured : Fld Z h374 b374 "com/example/killdeer/killdeer/GadgetView" "obscured" "Lcom/example/killdeer/killdeer/GadgetView$Obscured;" .null := D374 (Or.inr (wd hw 60 rfl)) (ty := (.object "com/example/killdeer/killdeer/GadgetView$Obscured")) (by decide)
      have K374 : Keep h0 h374 [] := Keep.ext K371 E374
      have Z374 : n0 ≤ h374.size := Nat.le_trans Z371 E374.1
      refine Goes.by st374 ?_
      refine Goes.by (fun _ kz => XS.dup X374.here hx rfl (hb hby at_341) rfl rfl (XS.iload X374.here hx rfl (hb hby at_342) rfl kz)) ?_
      have f383 := (f375.ext E374)
      have f384 := (f376.ext E374)
      have f385 := (f377.ext E374)
      have f386 := (f373.ext E374)
      have f387 := (f378.ext E374)
      have f388 := (f379.ext E374)
      have f389 := (f380.ext E374)
      have f390 := (f381.ext E374)
      have f391 := (V371.ext E374)
      obtain ⟨T382, h382, X382, e382, E382, A382, D382, -, st382⟩ := newO X374 hx hZ hown (wd hw 13 rfl) (wd hw 14 rfl) (wd hw 15 rfl) e374 (g := (mkF m 344 #[lv p1, .second, lv p2, .second, lv p3, .second, lv p4, .second, iv p5, iv p6, rv b1, iv z1, iv z2, iv oi, iv oj, iv ch0, iv ch1, iv ch2, iv zB, iv 2, iv (((p6.toUInt32 >>> ((4 : Int32) &&& 31).toUInt32).toInt32) &&& (3 : Int32)), rv b17, iv z1, rv b361, lv p1, .second, lv p2, .second, lv p3, .second, lv p4, .second, rv (own_o w oi), .unset, .unset, .unset] [(.int z1), (.ref b374), (.ref b374)])) rfl (hb hby at_344) (by decide) (by decide)
      obtain ⟨b382, g382⟩ : ∃ z, z = h374.size := ⟨_, rfl⟩
      rw [← g382] at A382 D382 st382
      have ne382__w_0_ : (w 0) ≠ b382 := Nat.ne_of_lt (Nat.lt_of_lt_of_le f383.lt (Nat.le_of_eq g382.symm))
      have ne382__w_1_ : (w 1) ≠ b382 := Nat.ne_of_lt (Nat.lt_of_lt_of_le f384.lt (Nat.le_of_eq g382.symm))
      have ne382__w_2_ : (w 2) ≠ b382 := Nat.ne_of_lt (Nat.lt_of_lt_of_le f385.lt (Nat.le_of_eq g382.symm))
      have ne382_b1 : b1 ≠ b382 := Nat.ne_of_lt (Nat.lt_of_lt_of_le f386.lt (Nat.le_of_eq g382.symm))
      have ne382_b17 : b17 ≠ b382 := Nat.ne_of_lt (Nat.lt_of_lt_of_le f387.lt (Nat.le_of_eq g382.symm))
      have ne382_b21 : b21 ≠ b382 := Nat.ne_of_lt (Nat.lt_of_lt_of_le f388.lt (Nat.le_of_eq g382.symm))
      have ne382_b26 : b26 ≠ b382 := Nat.ne_of_lt (Nat.lt_of_lt_of_le f389.lt (Nat.le_of_eq g382.symm))
      have ne382_t44 : t44 ≠ b382 := Nat.ne_of_lt (Nat.lt_of_lt_of_le f390.lt (Nat.le_of_eq g382.symm))
      have ne382_b361 : b361 ≠ b382 := Nat.ne_of_lt (Nat.lt_of_lt_of_le f391.lt (Nat.le_of_eq g382.symm))
      have ne382_b374 : b374 ≠ b382 := Nat.ne_of_lt (Nat.lt_of_lt_of_le A374.lt (Nat.le_of_eq g382.symm))
      have g_b382 : n0 ≤ b382 := Nat.le_trans Z374 (Nat.le_of_eq g382.symm)
      have sz_b382 : h0.size ≤ b382 := Nat.le_trans K374.1 (Nat.le_of_eq g382.symm)
      have F382_coder : Fld Z h382 b382 "java/lang/String" "coder" "B" (.int 0) := D382 (Or.inr (wd hw 40 rfl)) (ty := .byte) (by decide)
      have F382_value : Fld Z h382 b382 "java/lang/String" "value" "[B" .null := D382 (Or.inr (wd hw 42 rfl)) (ty := (.array .byte)) (by decide)
      have K382 : Keep h0 h382 [] := Keep.ext K374 E382
      have Z382 : n0 ≤ h382.size := Nat.le_trans Z374 E382.1
      refine Goes.by st382 ?_
      refine Goes.by (fun _ kz => XS.dup X382.here hx rfl (hb hby at_347) rfl rfl (XS.aload X382.here hx rfl (hb hby at_348) rfl rfl kz)) ?_
      show Goes p e below (T382.setTop (mkF m 350 #[lv p1, .second, lv p2, .second, lv p3, .second, lv p4, .second, iv p5, iv p6, rv b1, iv z1, iv z2, iv oi, iv oj, iv ch0, iv ch1, iv ch2, iv zB, iv 2, iv (((p6.toUInt32 >>> ((4 : Int32) &&& 31).toUInt32).toInt32) &&& (3 : Int32)), rv b17, iv z1, rv b361, lv p1, .second, lv p2, .second, lv p3, .second, lv p4, .second, rv (own_o w oi), .unset, .unset, .unset] [(.ref b361), (.ref b382), (.ref b382), (.int z1), (.ref b374), (.ref b374)])) _
      have f392 := (f391.ext E382)
      have f393 := (((Sta.wr W371 (Sta.wr W370 ((own_staKeep (own_staKeep f37 Kq44 (allS (own_nsE f34) all0)) Kq81 (allS (own_nsE f73) all0)).ext E361))).ext E374).ext E382)
      have f394 := (f383.ext E382)
      have f395 := (f384.ext E382)
      have f396 := (f385.ext E382)
      have f397 := (f386.ext E382)
      have f398 := (f387.ext E382)
      have f399 := (f388.ext E382)
      have f400 := (f389.ext E382)
      have f401 := (f390.ext E382)
      have f402 := (A374.ext E382)
      have hp403 : ∀ c ∈ ([ch0, ch2] : List Int32), ¬ c < 0 ∧ ¬ (255 : Int32) < c := by
        intro c hc; simp only [List.mem_cons, List.not_mem_nil, or_false] at hc
        rcases hc with hc | hc
        · rw [hc]; exact hb_ch0
        · rw [hc]; exact hb_ch2
      have hcd403 : StrChars.Road.CodA ([ch0, ch2] : List Int32) 0 (2 : Int32) ((([ch0, ch2] : List Int32).map (fun c => c.toInt8.toInt32)).map Value.int) := StrChars.Road.codOf (n := 2) rfl (fun c hc => (hp403 c hc).2)
      have hbd403 := own_up _ hp403
      obtain ⟨_, _, ⟨T404, L404, k404, n404⟩, -, X404, ⟨Lc404, hQ404, l404, y404, z404⟩, st404⟩ := X382.specialBack hx (y := (⟨"java/lang/String", "<init>", "([C)V"⟩ : MethodName)) rfl hown (mvT hZ (wd hw 17 rfl)) (mvT hZ (wd hw 18 rfl)) (mvT hZ (wd hw 19 rfl)) (by decide) (StrChars.Road.backV (W := 4) hZ hws (kI := 4) (wd hw 14 rfl) (cs := ([ch0, ch2] : List Int32)) (bs := (([ch0, ch2] : List Int32).map (fun c => c.toInt8.toInt32))) (n := 2) g_b382 Z382 A382 F382_value F382_coder f392 f393 hzc rfl rfl (by decide) (by decide) hp403 rfl (by decide) (by decide)) (g := (mkF m 350 #[lv p1, .second, lv p2, .second, lv p3, .second, lv p4, .second, iv p5, iv p6, rv b1, iv z1, iv z2, iv oi, iv oj, iv ch0, iv ch1, iv ch2, iv zB, iv 2, iv (((p6.toUInt32 >>> ((4 : Int32) &&& 31).toUInt32).toInt32) &&& (3 : Int32)), rv b17, iv z1, rv b361, lv p1, .second, lv p2, .second, lv p3, .second, lv p4, .second, rv (own_o w oi), .unset, .unset, .unset] [(.ref b361), (.ref b382), (.ref b382), (.int z1), (.ref b374), (.ref b374)])) rfl (by rw [hml]; rfl) (Steps.refl _) (a := b382) (argsL := [(.ref b361)]) (rest := [(.ref b382), (.int z1), (.ref b374), (.ref b374)]) (lenOf pd0 rfl) rfl (by show 2 * 0 + _ ≤ _; exact Nat.le_of_eq rfl) (hb hby at_350) (fun _ _ => ⟨rfl, e382, (by decide : 8 + 1 ≤ _), (by decide : 31 + 2 ≤ _)⟩)
      dsimp only [Pt.U, Pt.locs, Pt.cells, Pt.slots] at X404 l404 y404 z404 st404 hQ404
      subst l404 y404 z404
      obtain ⟨rfl, Nq404, Kq404, gE404, gC404, t404, kb404, u1_404, u2_404, u3_404, gV404, gA404⟩ := hQ404
      have K404 : Keep h0 T404.heap [] := Keep.trans K382 Kq404 (allS (Or.inr sz_b382) all0)
      have Z404 : n0 ≤ T404.heap.size := Nat.le_trans Z382 Kq404.1
      have net404__w_0_ : (w 0) ≠ t404 := Nat.ne_of_lt (Nat.lt_of_lt_of_le f394.lt u2_404)
      have net404__w_1_ : (w 1) ≠ t404 := Nat.ne_of_lt (Nat.lt_of_lt_of_le f395.lt u2_404)
      have net404__w_2_ : (w 2) ≠ t404 := Nat.ne_of_lt (Nat.lt_of_lt_of_le f396.lt u2_404)
      have net404_b1 : b1 ≠ t404 := Nat.ne_of_lt (Nat.lt_of_lt_of_le f397.lt u2_404)
      have net404_b17 : b17 ≠ t404 := Nat.ne_of_lt (Nat.lt_of_lt_of_le f398.lt u2_404)
      have net404_b21 : b21 ≠ t404 := Nat.ne_of_lt (Nat.lt_of_lt_of_le f399.lt u2_404)
      have net404_b26 : b26 ≠ t404 := Nat.ne_of_lt (Nat.lt_of_lt_of_le f400.lt u2_404)
      have net404_t44 : t44 ≠ t404 := Nat.ne_of_lt (Nat.lt_of_lt_of_le f401.lt u2_404)
      have net404_b361 : b361 ≠ t404 := Nat.ne_of_lt (Nat.lt_of_lt_of_le f392.lt u2_404)
      have net404_b374 : b374 ≠ t404 := Nat.ne_of_lt (Nat.lt_of_lt_of_le f402.lt u2_404)
      have net404_b382 : b382 ≠ t404 := Nat.ne_of_lt (Nat.lt_of_lt_of_le A382.lt u2_404)
      have g_t404 : n0 ≤ t404 := Nat.le_trans Z382 u2_404
      have sz_t404 : h0.size ≤ t404 := Nat.le_trans K382.1 u2_404
      have N404 := Fr.app N371 Nq404
      refine Goes.tr st404 ?_
      refine Goes.by (fun _ kz => XS.lload X404.here hx rfl (hb hby at_353) rfl (XS.lload X404.here hx rfl (hb hby at_355) rfl (XS.lload X404.here hx rfl (hb hby at_357) rfl kz))) ?_
      show Goes p e below (T404.setTop (mkF m 359 #[lv p1, .second, lv p2, .second, lv p3, .second, lv p4, .second, iv p5, iv p6, rv b1, iv z1, iv z2, iv oi, iv oj, iv ch0, iv ch1, iv ch2, iv zB, iv 2, iv (((p6.toUInt32 >>> ((4 : Int32) &&& 31).toUInt32).toInt32) &&& (3 : Int32)), rv b17, iv z1, rv b361, lv p1, .second, lv p2, .second, lv p3, .second, lv p4, .second, rv (own_o w oi), .unset, .unset, .unset] [(.long p3), (.long p2), (.long p1), (.ref b382), (.int z1), (.ref b374), (.ref b374)])) _
      refine Goes.by (fun _ kz => XS.lload X404.here hx rfl (hb hby at_359) rfl (XS.aload X404.here hx rfl (hb hby at_361) rfl rfl kz)) ?_
      have f405 := (f402.keep Kq404)
      have f406 := ((F374_visible.ext E382).keep Kq404 (ninS ne382_b374 nin0))
      have f407 := ((F374_appearance.ext E382).keep Kq404 (ninS ne382_b374 nin0))
      have f408 := ((F374_x.ext E382).keep Kq404 (ninS ne382_b374 nin0))
      have f409 := ((F374_y.ext E382).keep Kq404 (ninS ne382_b374 nin0))
      have f410 := ((F374_width.ext E382).keep Kq404 (ninS ne382_b374 nin0))
      have f411 := ((F374_height.ext E382).keep Kq404 (ninS ne382_b374 nin0))
      have f412 := ((F374_obscured.ext E382).keep Kq404 (ninS ne382_b374 nin0))
      obtain ⟨_, _, ⟨T413, L413, k413, n413⟩, -, X413, ⟨Lc413, hQ413, l413, y413, z413⟩, st413⟩ := X404.specialBack hx (y := (⟨"com/example/killdeer/killdeer/GadgetView", "<init>", "(ZLjava/lang/String;JJJJLcom/example/killdeer/killdeer/GadgetView$Obscured;)V"⟩ : MethodName)) rfl hown (mvT hZ (wd hw 43 rfl)) (mvT hZ (wd hw 44 rfl)) (mvT hZ (wd hw 45 rfl)) (by decide) (backOf (W := 1) (r7_0 l Z a0 hw [] T404.heap n0 Z404 b374 z1 b382 p1 p2 p3 p4 (own_o w oi) f405 f406 f407 f408 f409 f410 f411 f412 g_b374) hZ (wd hw 45 rfl) (wd hw 12 rfl) (by decide) (by decide)) (g := (mkF m 363 #[lv p1, .second, lv p2, .second, lv p3, .second, lv p4, .second, iv p5, iv p6, rv b1, iv z1, iv z2, iv oi, iv oj, iv ch0, iv ch1, iv ch2, iv zB, iv 2, iv (((p6.toUInt32 >>> ((4 : Int32) &&& 31).toUInt32).toInt32) &&& (3 : Int32)), rv b17, iv z1, rv b361, lv p1, .second, lv p2, .second, lv p3, .second, lv p4, .second, rv (own_o w oi), .unset, .unset, .unset] [(.ref (own_o w oi)), (.long p4), (.long p3), (.long p2), (.long p1), (.ref b382), (.int z1), (.ref b374), (.ref b374)])) rfl (by rw [hml]; rfl) (Steps.refl _) (a := b374) (argsL := [(.int z1), (.ref b382), (.long p1), (.long p2), (.long p3), (.long p4), (.ref (own_o w oi))]) (rest := [(.ref b374)]) (lenOf pd1 rfl) rfl (by show 2 * 0 + _ ≤ _; exact Nat.le_of_eq rfl) (hb hby at_363) (fun _ _ => ⟨rfl, rfl, (by decide : 9 + 0 ≤ _), (by decide : 33 + 0 ≤ _)⟩)
      dsimp only [Pt.U, Pt.locs, Pt.cells, Pt.slots] at X413 l413 y413 z413 st413 hQ413
      subst l413 y413 z413
      obtain ⟨rfl, Nq413, Kq413, fq413_0, fq413_1, fq413_2, fq413_3, fq413_4, fq413_5, fq413_6⟩ := hQ413
      have K413 : Keep h0 T413.heap [] := Keep.trans K404 Kq413 (allS (Or.inr sz_b374) all0)
      have Z413 : n0 ≤ T413.heap.size := Nat.le_trans Z404 Kq413.1
      have N413 := Fr.app N404 Nq413
      refine Goes.tr st413 ?_
      refine Goes.by (fun _ kz => XS.astore X413.here hx rfl (hb hby at_366) rfl rfl rfl (XS.iload X413.here hx rfl (hb hby at_368) rfl (XS.ifYes X413.here hx rfl (pc0 := 370) (pc' := 379) rfl (hb hby at_370) rfl ((if0 _ _).trans (feq (by decide : ¬ ((2 : Int32) = (0 : Int32)))).2) (by decide) (by decide) kz))) ?_
      show Goes p e below (T413.setTop (mkF m 379 #[lv p1, .second, lv p2, .second, lv p3, .second, lv p4, .second, iv p5, iv p6, rv b1, iv z1, iv z2, iv oi, iv oj, iv ch0, iv ch1, iv ch2, iv zB, iv 2, iv (((p6.toUInt32 >>> ((4 : Int32) &&& 31).toUInt32).toInt32) &&& (3 : Int32)), rv b17, iv z1, rv b361, lv p1, .second, lv p2, .second, lv p3, .second, lv p4, .second, rv (own_o w oi), rv b374, .unset, .unset] [])) _
      refine Goes.by (fun _ kz => XS.iload X413.here hx rfl (hb hby at_379) rfl (XS.iconst X413.here hx rfl (hb hby at_381) (XS.icmpYes X413.here hx rfl (pc0 := 382) (pc' := 402) rfl (hb hby at_382) rfl (feq (by decide : ¬ ((2 : Int32) = (1 : Int32)))).2 (by decide) (by decide) kz))) ?_
      show Goes p e below (T413.setTop (mkF m 402 #[lv p1, .second, lv p2, .second, lv p3, .second, lv p4, .second, iv p5, iv p6, rv b1, iv z1, iv z2, iv oi, iv oj, iv ch0, iv ch1, iv ch2, iv zB, iv 2, iv (((p6.toUInt32 >>> ((4 : Int32) &&& 31).toUInt32).toInt32) &&& (3 : Int32)), rv b17, iv z1, rv b361, lv p1, .second, lv p2, .second, lv p3, .second, lv p4, .second, rv (own_o w oi), rv b374, .unset, .unset] [])) _
      refine Goes.by (fun _ kz => XS.iload X413.here hx rfl (hb hby at_402) rfl (XS.iconst X413.here hx rfl (hb hby at_404) (XS.icmpNo X413.here hx rfl (hb hby at_405) rfl (teq (by decide : (2 : Int32) = (2 : Int32))).2 kz))) ?_
      show Goes p e below (T413.setTop (mkF m 408 #[lv p1, .second, lv p2, .second, lv p3, .second, lv p4, .second, iv p5, iv p6, rv b1, iv z1, iv z2, iv oi, iv oj, iv ch0, iv ch1, iv ch2, iv zB, iv 2, iv (((p6.toUInt32 >>> ((4 : Int32) &&& 31).toUInt32).toInt32) &&& (3 : Int32)), rv b17, iv z1, rv b361, lv p1, .second, lv p2, .second, lv p3, .second, lv p4, .second, rv (own_o w oi), rv b374, .unset, .unset] [])) _
      refine Goes.by (fun _ kz => XS.iload X413.here hx rfl (hb hby at_408) rfl (XS.ifNo X413.here hx rfl (hb hby at_410) rfl ((if0 _ _).trans (teq hc360).2) (XS.iload X413.here hx rfl (hb hby at_413) rfl kz))) ?_
      show Goes p e below (T413.setTop (mkF m 415 #[lv p1, .second, lv p2, .second, lv p3, .second, lv p4, .second, iv p5, iv p6, rv b1, iv z1, iv z2, iv oi, iv oj, iv ch0, iv ch1, iv ch2, iv zB, iv 2, iv (((p6.toUInt32 >>> ((4 : Int32) &&& 31).toUInt32).toInt32) &&& (3 : Int32)), rv b17, iv z1, rv b361, lv p1, .second, lv p2, .second, lv p3, .second, lv p4, .second, rv (own_o w oi), rv b374, .unset, .unset] [(.int ch2)])) _
      refine Goes.by (fun _ kz => XS.iload X413.here hx rfl (hb hby at_415) rfl kz) ?_
      show Goes p e below (T413.setTop (mkF m 417 #[lv p1, .second, lv p2, .second, lv p3, .second, lv p4, .second, iv p5, iv p6, rv b1, iv z1, iv z2, iv oi, iv oj, iv ch0, iv ch1, iv ch2, iv zB, iv 2, iv (((p6.toUInt32 >>> ((4 : Int32) &&& 31).toUInt32).toInt32) &&& (3 : Int32)), rv b17, iv z1, rv b361, lv p1, .second, lv p2, .second, lv p3, .second, lv p4, .second, rv (own_o w oi), rv b374, .unset, .unset] [(.int ch1), (.int ch2)])) _
      refine Goes.join (fun ze : Int32 => (ze = 1 ∧ ch2 = ch1) ∨ (ze = 0 ∧ ¬ ch2 = ch1)) (fun ze => T413.setTop (mkF m 425 #[lv p1, .second, lv p2, .second, lv p3, .second, lv p4, .second, iv p5, iv p6, rv b1, iv z1, iv z2, iv oi, iv oj, iv ch0, iv ch1, iv ch2, iv zB, iv 2, iv (((p6.toUInt32 >>> ((4 : Int32) &&& 31).toUInt32).toInt32) &&& (3 : Int32)), rv b17, iv z1, rv b361, lv p1, .second, lv p2, .second, lv p3, .second, lv p4, .second, rv (own_o w oi), rv b374, .unset, .unset] [(.int ze)])) (fun J => ?_) (fun ze hze => ?_)
      · show Goes p e below (T413.setTop (mkF m 417 #[lv p1, .second, lv p2, .second, lv p3, .second, lv p4, .second, iv p5, iv p6, rv b1, iv z1, iv z2, iv oi, iv oj, iv ch0, iv ch1, iv ch2, iv zB, iv 2, iv (((p6.toUInt32 >>> ((4 : Int32) &&& 31).toUInt32).toInt32) &&& (3 : Int32)), rv b17, iv z1, rv b361, lv p1, .second, lv p2, .second, lv p3, .second, lv p4, .second, rv (own_o w oi), rv b374, .unset, .unset] [(.int ch1), (.int ch2)])) _
        by_cases hc414 : ch2 = ch1
        · refine Goes.by (fun _ kz => XS.icmpNo X413.here hx rfl (hb hby at_417) rfl (teq hc414).2 (XS.iconst X413.here hx rfl (hb hby at_420) (XS.goto X413.here hx rfl (pc0 := 421) (pc' := 425) rfl (hb hby at_421) (by decide) (by decide) kz))) ?_
          show Goes p e below (T413.setTop (mkF m 425 #[lv p1, .second, lv p2, .second, lv p3, .second, lv p4, .second, iv p5, iv p6, rv b1, iv z1, iv z2, iv oi, iv oj, iv ch0, iv ch1, iv ch2, iv zB, iv 2, iv (((p6.toUInt32 >>> ((4 : Int32) &&& 31).toUInt32).toInt32) &&& (3 : Int32)), rv b17, iv z1, rv b361, lv p1, .second, lv p2, .second, lv p3, .second, lv p4, .second, rv (own_o w oi), rv b374, .unset, .unset] [(.int 1)])) _
          exact J (1 : Int32) (Or.inl ⟨rfl, hc414⟩)
        · refine Goes.by (fun _ kz => XS.icmpYes X413.here hx rfl (pc0 := 417) (pc' := 424) rfl (hb hby at_417) rfl (feq hc414).2 (by decide) (by decide) (XS.iconst X413.here hx rfl (hb hby at_424) kz)) ?_
          show Goes p e below (T413.setTop (mkF m 425 #[lv p1, .second, lv p2, .second, lv p3, .second, lv p4, .second, iv p5, iv p6, rv b1, iv z1, iv z2, iv oi, iv oj, iv ch0, iv ch1, iv ch2, iv zB, iv 2, iv (((p6.toUInt32 >>> ((4 : Int32) &&& 31).toUInt32).toInt32) &&& (3 : Int32)), rv b17, iv z1, rv b361, lv p1, .second, lv p2, .second, lv p3, .second, lv p4, .second, rv (own_o w oi), rv b374, .unset, .unset] [(.int 0)])) _
          exact J (0 : Int32) (Or.inr ⟨rfl, hc414⟩)
      show Goes p e below (T413.setTop (mkF m 425 #[lv p1, .second, lv p2, .second, lv p3, .second, lv p4, .second, iv p5, iv p6, rv b1, iv z1, iv z2, iv oi, iv oj, iv ch0, iv ch1, iv ch2, iv zB, iv 2, iv (((p6.toUInt32 >>> ((4 : Int32) &&& 31).toUInt32).toInt32) &&& (3 : Int32)), rv b17, iv z1, rv b361, lv p1, .second, lv p2, .second, lv p3, .second, lv p4, .second, rv (own_o w oi), rv b374, .unset, .unset] [(.int ze)])) _
      refine Goes.by (fun _ kz => XS.istore X413.here hx rfl (hb hby at_425) rfl rfl (XS.goto X413.here hx rfl (pc0 := 427) (pc' := 538) rfl (hb hby at_427) (by decide) (by decide) kz)) ?_
      show Goes p e below (T413.setTop (mkF m 538 #[lv p1, .second, lv p2, .second, lv p3, .second, lv p4, .second, iv p5, iv p6, rv b1, iv z1, iv z2, iv oi, iv oj, iv ch0, iv ch1, iv ch2, iv zB, iv 2, iv (((p6.toUInt32 >>> ((4 : Int32) &&& 31).toUInt32).toInt32) &&& (3 : Int32)), rv b17, iv z1, rv b361, lv p1, .second, lv p2, .second, lv p3, .second, lv p4, .second, rv (own_o w oi), rv b374, iv ze, .unset] [])) _
      have hsot := own_k (((p6.toUInt32 >>> ((4 : Int32) &&& 31).toUInt32).toInt32))
      obtain ⟨ot, hot⟩ : ∃ z, z = (((p6.toUInt32 >>> ((4 : Int32) &&& 31).toUInt32).toInt32) &&& (3 : Int32)) := ⟨_, rfl⟩
      rw [← hot] at hsot ⊢
      rcases hsot with rfl | rfl | rfl | rfl
      · show Goes p e below (T413.setTop (mkF m 538 #[lv p1, .second, lv p2, .second, lv p3, .second, lv p4, .second, iv p5, iv p6, rv b1, iv z1, iv z2, iv oi, iv oj, iv ch0, iv ch1, iv ch2, iv zB, iv 2, iv 0, rv b17, iv z1, rv b361, lv p1, .second, lv p2, .second, lv p3, .second, lv p4, .second, rv (own_o w oi), rv b374, iv ze, .unset] [])) _
        refine Goes.by (fun _ kz => XS.iload X413.here hx rfl (hb hby at_538) rfl (XS.iconst X413.here hx rfl (hb hby at_540) (XS.icmpYes X413.here hx rfl (pc0 := 541) (pc' := 552) rfl (hb hby at_541) rfl (feq (by decide : ¬ ((0 : Int32) = (1 : Int32)))).2 (by decide) (by decide) kz))) ?_
        show Goes p e below (T413.setTop (mkF m 552 #[lv p1, .second, lv p2, .second, lv p3, .second, lv p4, .second, iv p5, iv p6, rv b1, iv z1, iv z2, iv oi, iv oj, iv ch0, iv ch1, iv ch2, iv zB, iv 2, iv 0, rv b17, iv z1, rv b361, lv p1, .second, lv p2, .second, lv p3, .second, lv p4, .second, rv (own_o w oi), rv b374, iv ze, .unset] [])) _
        refine Goes.by (fun _ kz => XS.iload X413.here hx rfl (hb hby at_552) rfl (XS.iconst X413.here hx rfl (hb hby at_554) (XS.icmpYes X413.here hx rfl (pc0 := 555) (pc' := 573) rfl (hb hby at_555) rfl (feq (by decide : ¬ ((0 : Int32) = (2 : Int32)))).2 (by decide) (by decide) kz))) ?_
        show Goes p e below (T413.setTop (mkF m 573 #[lv p1, .second, lv p2, .second, lv p3, .second, lv p4, .second, iv p5, iv p6, rv b1, iv z1, iv z2, iv oi, iv oj, iv ch0, iv ch1, iv ch2, iv zB, iv 2, iv 0, rv b17, iv z1, rv b361, lv p1, .second, lv p2, .second, lv p3, .second, lv p4, .second, rv (own_o w oi), rv b374, iv ze, .unset] [])) _
        refine Goes.by (fun _ kz => XS.iload X413.here hx rfl (hb hby at_573) rfl (XS.iconst X413.here hx rfl (hb hby at_575) (XS.icmpYes X413.here hx rfl (pc0 := 576) (pc' := 612) rfl (hb hby at_576) rfl (feq (by decide : ¬ ((0 : Int32) = (3 : Int32)))).2 (by decide) (by decide) kz))) ?_
        show Goes p e below (T413.setTop (mkF m 612 #[lv p1, .second, lv p2, .second, lv p3, .second, lv p4, .second, iv p5, iv p6, rv b1, iv z1, iv z2, iv oi, iv oj, iv ch0, iv ch1, iv ch2, iv zB, iv 2, iv 0, rv b17, iv z1, rv b361, lv p1, .second, lv p2, .second, lv p3, .second, lv p4, .second, rv (own_o w oi), rv b374, iv ze, .unset] [])) _
        refine Goes.by (fun _ kz => XS.aload X413.here hx rfl (hb hby at_612) rfl rfl (XS.aload X413.here hx rfl (hb hby at_614) rfl rfl kz)) ?_
        have f415 := ((f398.keep Kq404).keep Kq413)
        have f416 := (((((Fld.other W371 (Fld.other W370 (fq81_0.ext E361) (Or.inl ne361_b17)) (Or.inl ne361_b17)).ext E374).ext E382).keep Kq404 (ninS ne382_b17 nin0)).keep Kq413 (ninS ne374_b17 nin0))
        have f417 := (((((Fld.other W371 (Fld.other W370 (fq81_1.ext E361) (Or.inl ne361_b17)) (Or.inl ne361_b17)).ext E374).ext E382).keep Kq404 (ninS ne382_b17 nin0)).keep Kq413 (ninS ne374_b17 nin0))
        have f418 := (((((Fld.other W371 (Fld.other W370 (fq81_2.ext E361) (Or.inl ne361_b17)) (Or.inl ne361_b17)).ext E374).ext E382).keep Kq404 (ninS ne382_b17 nin0)).keep Kq413 (ninS ne374_b17 nin0))
        have f419 := (((((Fld.other W371 (Fld.other W370 (fq81_3.ext E361) (Or.inl ne361_b17)) (Or.inl ne361_b17)).ext E374).ext E382).keep Kq404 (ninS ne382_b17 nin0)).keep Kq413 (ninS ne374_b17 nin0))
        have f420 := (((((Fld.other W371 (Fld.other W370 (fq81_4.ext E361) (Or.inl ne361_b17)) (Or.inl ne361_b17)).ext E374).ext E382).keep Kq404 (ninS ne382_b17 nin0)).keep Kq413 (ninS ne374_b17 nin0))
        have f421 := (((((Fld.other W371 (Fld.other W370 (fq81_5.ext E361) (Or.inl ne361_b17)) (Or.inl ne361_b17)).ext E374).ext E382).keep Kq404 (ninS ne382_b17 nin0)).keep Kq413 (ninS ne374_b17 nin0))
        have f422 := (((((Fld.other W371 (Fld.other W370 (fq81_6.ext E361) (Or.inl ne361_b17)) (Or.inl ne361_b17)).ext E374).ext E382).keep Kq404 (ninS ne382_b17 nin0)).keep Kq413 (ninS ne374_b17 nin0))
        have f423 := ((f399.keep Kq404).keep Kq413)
        have f424 := (((((Fld.other W371 (Fld.other W370 ((gV44.keep Kq81 (ninS (Ne.symm ne21_b17) nin0)).ext E361) (Or.inl ne361_b21)) (Or.inl ne361_b21)).ext E374).ext E382).keep Kq404 (ninS ne382_b21 nin0)).keep Kq413 (ninS ne374_b21 nin0))
        have f425 := (((((Fld.other W371 (Fld.other W370 ((gC44.keep Kq81 (ninS (Ne.symm ne21_b17) nin0)).ext E361) (Or.inl ne361_b21)) (Or.inl ne361_b21)).ext E374).ext E382).keep Kq404 (ninS ne382_b21 nin0)).keep Kq413 (ninS ne374_b21 nin0))
        have f426 := ((f401.keep Kq404 (ninS ne382_t44 nin0)).keep Kq413 (ninS ne374_t44 nin0))
        have f427 := (f405.keep Kq413)
        have f428 := ((A382.keep Kq404).keep Kq413)
        have f429 := (gV404.keep Kq413 (ninS (Ne.symm ne382_b374) nin0))
        have f430 := (gC404.keep Kq413 (ninS (Ne.symm ne382_b374) nin0))
        have f431 := (gA404.keep Kq413 (ninS (Ne.symm net404_b374) nin0))
        have f432 := (own_staKeep (own_staKeep f393 Kq404 (allS (own_nsE A382) all0)) Kq413 (allS (own_nsE f405) all0))
        obtain ⟨cq433, kq433, q433a, q433b, q433c⟩ := isOf hZ rfl f415
        obtain ⟨_, _, ⟨T433, L433, k433, n433⟩, -, X433, ⟨Lc433, hQ433, l433, y433, z433⟩, st433⟩ := X413.virtualBack hx (y := (⟨"com/example/killdeer/killdeer/GadgetView", "equals", "(Ljava/lang/Object;)Z"⟩ : MethodName)) (z := (⟨"com/example/killdeer/killdeer/GadgetView", "equals", "(Ljava/lang/Object;)Z"⟩ : MethodName)) hown (mvT hZ (wd hw 61 rfl)) (mvT hZ (wd hw 62 rfl)) (notFace_of_selects (args := #[]) (mvT hZ (wd hw 64 rfl))) (mvT hZ (wd hw 64 rfl)) (mvT hZ (wd hw 63 rfl)) (by decide) (backOf (W := 0) (r8_0 l Z a0 hw [] T413.heap n0 Z413 b17 b374 (nar .boolean z1) (nar .boolean z1) b21 b382 t44 t404 kb44 kb404 ([ch0, ch1] : List Int32) ([ch0, ch2] : List Int32) (2 : Int32) (2 : Int32) ((([ch0, ch1] : List Int32).map (fun c => c.toInt8.toInt32)).map Value.int) ((([ch0, ch2] : List Int32).map (fun c => c.toInt8.toInt32)).map Value.int) p1 p1 p2 p2 p3 p3 p4 p4 (own_o w oi) (own_o w oi) zc f415 f416 f417 f418 f419 f420 f421 f422 f423 f424 f425 f426 hcd43 hbd43 (by simp) f427 fq413_0 fq413_1 fq413_2 fq413_3 fq413_4 fq413_5 fq413_6 f428 f429 f430 f431 hcd403 hbd403 (by simp) f432 hzc ne374_b17) hZ (wd hw 65 rfl) (wd hw 12 rfl) (by decide) (by decide)) q433a q433c (g := (mkF m 616 #[lv p1, .second, lv p2, .second, lv p3, .second, lv p4, .second, iv p5, iv p6, rv b1, iv z1, iv z2, iv oi, iv oj, iv ch0, iv ch1, iv ch2, iv zB, iv 2, iv 0, rv b17, iv z1, rv b361, lv p1, .second, lv p2, .second, lv p3, .second, lv p4, .second, rv (own_o w oi), rv b374, iv ze, .unset] [(.ref b374), (.ref b17)])) rfl (by rw [hml]; rfl) (Steps.refl _) (argsL := [(.ref b374)]) (rest := []) (lenOf pd2 rfl) rfl (by show 2 * 0 + _ ≤ _; exact Nat.le_of_eq rfl) (hb hby at_616) (fun _ _ => ⟨rfl, rfl, (by decide : 9 + 0 ≤ _), (by decide : 33 + 0 ≤ _)⟩)
        dsimp only [Pt.U, Pt.locs, Pt.cells, Pt.slots] at X433 l433 y433 z433 st433 hQ433
        subst l433 y433 z433
        rcases hQ433 with hQ433 | hQ433
        · obtain ⟨rfl, Nq433, e433, hS433⟩ := hQ433
          have N433 := Fr.app N413 Nq433
          refine Goes.tr st433 ?_
          refine Goes.by (fun _ kz => XS.iload X433.here hx rfl (hb hby at_619) rfl kz) ?_
          show Goes p e below (T433.setTop (mkF m 621 #[lv p1, .second, lv p2, .second, lv p3, .second, lv p4, .second, iv p5, iv p6, rv b1, iv z1, iv z2, iv oi, iv oj, iv ch0, iv ch1, iv ch2, iv zB, iv 2, iv 0, rv b17, iv z1, rv b361, lv p1, .second, lv p2, .second, lv p3, .second, lv p4, .second, rv (own_o w oi), rv b374, iv ze, .unset] [(.int ze), (.int 1)])) _
          by_cases hc434 : (1 : Int32) = ze
          · refine Goes.by (fun _ kz => XS.icmpNo X433.here hx rfl (hb hby at_621) rfl (teq hc434).2 (XS.aload X433.here hx rfl (hb hby at_624) rfl rfl (XS.aload X433.here hx rfl (hb hby at_626) rfl rfl kz))) ?_
            obtain ⟨cq435, kq435, q435a, q435b, q435c⟩ := isOf hZ e433 f427
            obtain ⟨_, _, ⟨T435, L435, k435, n435⟩, -, X435, ⟨Lc435, hQ435, l435, y435, z435⟩, st435⟩ := X433.virtualBack hx (y := (⟨"com/example/killdeer/killdeer/GadgetView", "equals", "(Ljava/lang/Object;)Z"⟩ : MethodName)) (z := (⟨"com/example/killdeer/killdeer/GadgetView", "equals", "(Ljava/lang/Object;)Z"⟩ : MethodName)) hown (mvT hZ (wd hw 61 rfl)) (mvT hZ (wd hw 62 rfl)) (notFace_of_selects (args := #[]) (mvT hZ (wd hw 64 rfl))) (mvT hZ (wd hw 64 rfl)) (mvT hZ (wd hw 63 rfl)) (by decide) (backOf (W := 0) (r8_0 l Z a0 hw [] T413.heap n0 Z413 b374 b17 (nar .boolean z1) (nar .boolean z1) b382 b21 t404 t44 kb404 kb44 ([ch0, ch2] : List Int32) ([ch0, ch1] : List Int32) (2 : Int32) (2 : Int32) ((([ch0, ch2] : List Int32).map (fun c => c.toInt8.toInt32)).map Value.int) ((([ch0, ch1] : List Int32).map (fun c => c.toInt8.toInt32)).map Value.int) p1 p1 p2 p2 p3 p3 p4 p4 (own_o w oi) (own_o w oi) zc f427 fq413_0 fq413_1 fq413_2 fq413_3 fq413_4 fq413_5 fq413_6 f428 f429 f430 f431 hcd403 hbd403 (by simp) f415 f416 f417 f418 f419 f420 f421 f422 f423 f424 f425 f426 hcd43 hbd43 (by simp) f432 hzc (Ne.symm ne374_b17)) hZ (wd hw 65 rfl) (wd hw 12 rfl) (by decide) (by decide)) q435a q435c (g := (mkF m 628 #[lv p1, .second, lv p2, .second, lv p3, .second, lv p4, .second, iv p5, iv p6, rv b1, iv z1, iv z2, iv oi, iv oj, iv ch0, iv ch1, iv ch2, iv zB, iv 2, iv 0, rv b17, iv z1, rv b361, lv p1, .second, lv p2, .second, lv p3, .second, lv p4, .second, rv (own_o w oi), rv b374, iv ze, .unset] [(.ref b17), (.ref b374)])) rfl (by rw [hml]; rfl) (Steps.refl _) (argsL := [(.ref b17)]) (rest := []) (lenOf pd2 rfl) rfl (by show 2 * 0 + _ ≤ _; exact Nat.le_of_eq rfl) (hb hby at_628) (fun _ _ => ⟨rfl, e433, (by decide : 9 + 0 ≤ _), (by decide : 33 + 0 ≤ _)⟩)
            dsimp only [Pt.U, Pt.locs, Pt.cells, Pt.slots] at X435 l435 y435 z435 st435 hQ435
            subst l435 y435 z435
            rcases hQ435 with hQ435 | hQ435
            · obtain ⟨rfl, Nq435, e435, hS435⟩ := hQ435
              have N435 := Fr.app N433 Nq435
              refine Goes.tr st435 ?_
              refine Goes.by (fun _ kz => XS.iload X435.here hx rfl (hb hby at_631) rfl (XS.icmpNo X435.here hx rfl (hb hby at_633) rfl (teq hc434).2 (XS.iconst X435.here hx rfl (hb hby at_636) kz))) ?_
              show Goes p e below (T435.setTop (mkF m 637 #[lv p1, .second, lv p2, .second, lv p3, .second, lv p4, .second, iv p5, iv p6, rv b1, iv z1, iv z2, iv oi, iv oj, iv ch0, iv ch1, iv ch2, iv zB, iv 2, iv 0, rv b17, iv z1, rv b361, lv p1, .second, lv p2, .second, lv p3, .second, lv p4, .second, rv (own_o w oi), rv b374, iv ze, .unset] [(.int 1)])) _
              refine Goes.by (fun _ kz => XS.goto X435.here hx rfl (pc0 := 637) (pc' := 641) rfl (hb hby at_637) (by decide) (by decide) kz) ?_
              show Goes p e below (T435.setTop (mkF m 641 #[lv p1, .second, lv p2, .second, lv p3, .second, lv p4, .second, iv p5, iv p6, rv b1, iv z1, iv z2, iv oi, iv oj, iv ch0, iv ch1, iv ch2, iv zB, iv 2, iv 0, rv b17, iv z1, rv b361, lv p1, .second, lv p2, .second, lv p3, .second, lv p4, .second, rv (own_o w oi), rv b374, iv ze, .unset] [(.int 1)])) _
              obtain ⟨fs, hr, hrun, hended, hW, hsame⟩ := X435.leave (v := some (.int 1)) (fun h => by rw [Bd.returns] at h; cases h)
              exact ⟨_, _, retN X435 hx (t := .boolean) Bd.returns (by simp) (hb hby at_641) hr, hrun, hended, _, _, rfl, ⟨rfl, N435⟩, ⟨_, rfl⟩, hW, hsame.mono (by decide) (by decide)⟩
            · obtain ⟨rfl, Nq435, e435, hS435⟩ := hQ435
              have N435 := Fr.app N433 Nq435
              refine Goes.tr st435 ?_
              refine Goes.by (fun _ kz => XS.iload X435.here hx rfl (hb hby at_631) rfl (XS.icmpYes X435.here hx rfl (pc0 := 633) (pc' := 640) rfl (hb hby at_633) rfl (feq (by rw [← hc434]; decide : ¬ ((0 : Int32) = ze))).2 (by decide) (by decide) (XS.iconst X435.here hx rfl (hb hby at_640) kz))) ?_
              show Goes p e below (T435.setTop (mkF m 641 #[lv p1, .second, lv p2, .second, lv p3, .second, lv p4, .second, iv p5, iv p6, rv b1, iv z1, iv z2, iv oi, iv oj, iv ch0, iv ch1, iv ch2, iv zB, iv 2, iv 0, rv b17, iv z1, rv b361, lv p1, .second, lv p2, .second, lv p3, .second, lv p4, .second, rv (own_o w oi), rv b374, iv ze, .unset] [(.int 0)])) _
              exfalso
              rcases hze with ⟨hz, hC⟩ | ⟨hz, hC⟩
              · first | (rw [hz] at hc434; exact absurd hc434 (by decide)) | (revert hS435; simp [own_same, own_nb hz1, own_nb hz2, own_oinj pne01 pne02 pne12 h_oi h_oj, own_oinj pne01 pne02 pne12 h_oj h_oi, hC]; done)
              · first | (rw [hz] at hc434; exact absurd hc434 (by decide)) | (revert hS435; simp [own_same, own_nb hz1, own_nb hz2, own_oinj pne01 pne02 pne12 h_oi h_oj, own_oinj pne01 pne02 pne12 h_oj h_oi, hC, Ne.symm hC]; done)
          · refine Goes.by (fun _ kz => XS.icmpYes X433.here hx rfl (pc0 := 621) (pc' := 640) rfl (hb hby at_621) rfl (feq hc434).2 (by decide) (by decide) (XS.iconst X433.here hx rfl (hb hby at_640) kz)) ?_
            show Goes p e below (T433.setTop (mkF m 641 #[lv p1, .second, lv p2, .second, lv p3, .second, lv p4, .second, iv p5, iv p6, rv b1, iv z1, iv z2, iv oi, iv oj, iv ch0, iv ch1, iv ch2, iv zB, iv 2, iv 0, rv b17, iv z1, rv b361, lv p1, .second, lv p2, .second, lv p3, .second, lv p4, .second, rv (own_o w oi), rv b374, iv ze, .unset] [(.int 0)])) _
            exfalso
            rcases hze with ⟨hz, hC⟩ | ⟨hz, hC⟩
            · first | (rw [hz] at hc434; exact absurd hc434 (by decide)) | (revert hS433; simp [own_same, own_nb hz1, own_nb hz2, own_oinj pne01 pne02 pne12 h_oi h_oj, own_oinj pne01 pne02 pne12 h_oj h_oi, hC]; done)
            · first | (rw [hz] at hc434; exact absurd hc434 (by decide)) | (revert hS433; simp [own_same, own_nb hz1, own_nb hz2, own_oinj pne01 pne02 pne12 h_oi h_oj, own_oinj pne01 pne02 pne12 h_oj h_oi, hC, Ne.symm hC]; done)
        · obtain ⟨rfl, Nq433, e433, hS433⟩ := hQ433
          have N433 := Fr.app N413 Nq433
          refine Goes.tr st433 ?_
          refine Goes.by (fun _ kz => XS.iload X433.here hx rfl (hb hby at_619) rfl kz) ?_
          show Goes p e below (T433.setTop (mkF m 621 #[lv p1, .second, lv p2, .second, lv p3, .second, lv p4, .second, iv p5, iv p6, rv b1, iv z1, iv z2, iv oi, iv oj, iv ch0, iv ch1, iv ch2, iv zB, iv 2, iv 0, rv b17, iv z1, rv b361, lv p1, .second, lv p2, .second, lv p3, .second, lv p4, .second, rv (own_o w oi), rv b374, iv ze, .unset] [(.int ze), (.int 0)])) _
          by_cases hc436 : (0 : Int32) = ze
          · refine Goes.by (fun _ kz => XS.icmpNo X433.here hx rfl (hb hby at_621) rfl (teq hc436).2 (XS.aload X433.here hx rfl (hb hby at_624) rfl rfl (XS.aload X433.here hx rfl (hb hby at_626) rfl rfl kz))) ?_
            obtain ⟨cq437, kq437, q437a, q437b, q437c⟩ := isOf hZ e433 f427
            obtain ⟨_, _, ⟨T437, L437, k437, n437⟩, -, X437, ⟨Lc437, hQ437, l437, y437, z437⟩, st437⟩ := X433.virtualBack hx (y := (⟨"com/example/killdeer/killdeer/GadgetView", "equals", "(Ljava/lang/Object;)Z"⟩ : MethodName)) (z := (⟨"com/example/killdeer/killdeer/GadgetView", "equals", "(Ljava/lang/Object;)Z"⟩ : MethodName)) hown (mvT hZ (wd hw 61 rfl)) (mvT hZ (wd hw 62 rfl)) (notFace_of_selects (args := #[]) (mvT hZ (wd hw 64 rfl))) (mvT hZ (wd hw 64 rfl)) (mvT hZ (wd hw 63 rfl)) (by decide) (backOf (W := 0) (r8_0 l Z a0 hw [] T413.heap n0 Z413 b374 b17 (nar .boolean z1) (nar .boolean z1) b382 b21 t404 t44 kb404 kb44 ([ch0, ch2] : List Int32) ([ch0, ch1] : List Int32) (2 : Int32) (2 : Int32) ((([ch0, ch2] : List Int32).map (fun c => c.toInt8.toInt32)).map Value.int) ((([ch0, ch1] : List Int32).map (fun c => c.toInt8.toInt32)).map Value.int) p1 p1 p2 p2 p3 p3 p4 p4 (own_o w oi) (own_o w oi) zc f427 fq413_0 fq413_1 fq413_2 fq413_3 fq413_4 fq413_5 fq413_6 f428 f429 f430 f431 hcd403 hbd403 (by simp) f415 f416 f417 f418 f419 f420 f421 f422 f423 f424 f425 f426 hcd43 hbd43 (by simp) f432 hzc (Ne.symm ne374_b17)) hZ (wd hw 65 rfl) (wd hw 12 rfl) (by decide) (by decide)) q437a q437c (g := (mkF m 628 #[lv p1, .second, lv p2, .second, lv p3, .second, lv p4, .second, iv p5, iv p6, rv b1, iv z1, iv z2, iv oi, iv oj, iv ch0, iv ch1, iv ch2, iv zB, iv 2, iv 0, rv b17, iv z1, rv b361, lv p1, .second, lv p2, .second, lv p3, .second, lv p4, .second, rv (own_o w oi), rv b374, iv ze, .unset] [(.ref b17), (.ref b374)])) rfl (by rw [hml]; rfl) (Steps.refl _) (argsL := [(.ref b17)]) (rest := []) (lenOf pd2 rfl) rfl (by show 2 * 0 + _ ≤ _; exact Nat.le_of_eq rfl) (hb hby at_628) (fun _ _ => ⟨rfl, e433, (by decide : 9 + 0 ≤ _), (by decide : 33 + 0 ≤ _)⟩)
            dsimp only [Pt.U, Pt.locs, Pt.cells, Pt.slots] at X437 l437 y437 z437 st437 hQ437
            subst l437 y437 z437
            rcases hQ437 with hQ437 | hQ437
            · obtain ⟨rfl, Nq437, e437, hS437⟩ := hQ437
              have N437 := Fr.app N433 Nq437
              refine Goes.tr st437 ?_
              refine Goes.by (fun _ kz => XS.iload X437.here hx rfl (hb hby at_631) rfl (XS.icmpYes X437.here hx rfl (pc0 := 633) (pc' := 640) rfl (hb hby at_633) rfl (feq (by rw [← hc436]; decide : ¬ ((1 : Int32) = ze))).2 (by decide) (by decide) (XS.iconst X437.here hx rfl (hb hby at_640) kz))) ?_
              show Goes p e below (T437.setTop (mkF m 641 #[lv p1, .second, lv p2, .second, lv p3, .second, lv p4, .second, iv p5, iv p6, rv b1, iv z1, iv z2, iv oi, iv oj, iv ch0, iv ch1, iv ch2, iv zB, iv 2, iv 0, rv b17, iv z1, rv b361, lv p1, .second, lv p2, .second, lv p3, .second, lv p4, .second, rv (own_o w oi), rv b374, iv ze, .unset] [(.int 0)])) _
              exfalso
              rcases hze with ⟨hz, hC⟩ | ⟨hz, hC⟩
              · first | (rw [hz] at hc436; exact absurd hc436 (by decide)) | (revert hS437; simp [own_same, own_nb hz1, own_nb hz2, own_oinj pne01 pne02 pne12 h_oi h_oj, own_oinj pne01 pne02 pne12 h_oj h_oi, hC]; done)
              · first | (rw [hz] at hc436; exact absurd hc436 (by decide)) | (revert hS437; simp [own_same, own_nb hz1, own_nb hz2, own_oinj pne01 pne02 pne12 h_oi h_oj, own_oinj pne01 pne02 pne12 h_oj h_oi, hC, Ne.symm hC]; done)
            · obtain ⟨rfl, Nq437, e437, hS437⟩ := hQ437
              have N437 := Fr.app N433 Nq437
              refine Goes.tr st437 ?_
              refine Goes.by (fun _ kz => XS.iload X437.here hx rfl (hb hby at_631) rfl (XS.icmpNo X437.here hx rfl (hb hby at_633) rfl (teq hc436).2 (XS.iconst X437.here hx rfl (hb hby at_636) kz))) ?_
              show Goes p e below (T437.setTop (mkF m 637 #[lv p1, .second, lv p2, .second, lv p3, .second, lv p4, .second, iv p5, iv p6, rv b1, iv z1, iv z2, iv oi, iv oj, iv ch0, iv ch1, iv ch2, iv zB, iv 2, iv 0, rv b17, iv z1, rv b361, lv p1, .second, lv p2, .second, lv p3, .second, lv p4, .second, rv (own_o w oi), rv b374, iv ze, .unset] [(.int 1)])) _
              refine Goes.by (fun _ kz => XS.goto X437.here hx rfl (pc0 := 637) (pc' := 641) rfl (hb hby at_637) (by decide) (by decide) kz) ?_
              show Goes p e below (T437.setTop (mkF m 641 #[lv p1, .second, lv p2, .second, lv p3, .second, lv p4, .second, iv p5, iv p6, rv b1, iv z1, iv z2, iv oi, iv oj, iv ch0, iv ch1, iv ch2, iv zB, iv 2, iv 0, rv b17, iv z1, rv b361, lv p1, .second, lv p2, .second, lv p3, .second, lv p4, .second, rv (own_o w oi), rv b374, iv ze, .unset] [(.int 1)])) _
              obtain ⟨fs, hr, hrun, hended, hW, hsame⟩ := X437.leave (v := some (.int 1)) (fun h => by rw [Bd.returns] at h; cases h)
              exact ⟨_, _, retN X437 hx (t := .boolean) Bd.returns (by simp) (hb hby at_641) hr, hrun, hended, _, _, rfl, ⟨rfl, N437⟩, ⟨_, rfl⟩, hW, hsame.mono (by decide) (by decide)⟩
          · refine Goes.by (fun _ kz => XS.icmpYes X433.here hx rfl (pc0 := 621) (pc' := 640) rfl (hb hby at_621) rfl (feq hc436).2 (by decide) (by decide) (XS.iconst X433.here hx rfl (hb hby at_640) kz)) ?_
            show Goes p e below (T433.setTop (mkF m 641 #[lv p1, .second, lv p2, .second, lv p3, .second, lv p4, .second, iv p5, iv p6, rv b1, iv z1, iv z2, iv oi, iv oj, iv ch0, iv ch1, iv ch2, iv zB, iv 2, iv 0, rv b17, iv z1, rv b361, lv p1, .second, lv p2, .second, lv p3, .second, lv p4, .second, rv (own_o w oi), rv b374, iv ze, .unset] [(.int 0)])) _
            exfalso
            rcases hze with ⟨hz, hC⟩ | ⟨hz, hC⟩
            · first | (rw [hz] at hc436; exact absurd hc436 (by decide)) | (revert hS433; simp [own_same, own_nb hz1, own_nb hz2, own_oinj pne01 pne02 pne12 h_oi h_oj, own_oinj pne01 pne02 pne12 h_oj h_oi, hC]; done)
            · first | (rw [hz] at hc436; exact absurd hc436 (by decide)) | (revert hS433; simp [own_same, own_nb hz1, own_nb hz2, own_oinj pne01 pne02 pne12 h_oi h_oj, own_oinj pne01 pne02 pne12 h_oj h_oi, hC, Ne.symm hC]; done)
      · show Goes p e below (T413.setTop (mkF m 538 #[lv p1, .second, lv p2, .second, lv p3, .second, lv p4, .second, iv p5, iv p6, rv b1, iv z1, iv z2, iv oi, iv oj, iv ch0, iv ch1, iv ch2, iv zB, iv 2, iv 1, rv b17, iv z1, rv b361, lv p1, .second, lv p2, .second, lv p3, .second, lv p4, .second, rv (own_o w oi), rv b374, iv ze, .unset] [])) _
        refine Goes.by (fun _ kz => XS.iload X413.here hx rfl (hb hby at_538) rfl (XS.iconst X413.here hx rfl (hb hby at_540) (XS.icmpNo X413.here hx rfl (hb hby at_541) rfl (teq (by decide : (1 : Int32) = (1 : Int32))).2 kz))) ?_
        show Goes p e below (T413.setTop (mkF m 544 #[lv p1, .second, lv p2, .second, lv p3, .second, lv p4, .second, iv p5, iv p6, rv b1, iv z1, iv z2, iv oi, iv oj, iv ch0, iv ch1, iv ch2, iv zB, iv 2, iv 1, rv b17, iv z1, rv b361, lv p1, .second, lv p2, .second, lv p3, .second, lv p4, .second, rv (own_o w oi), rv b374, iv ze, .unset] [])) _
        refine Goes.by (fun _ kz => XS.aload X413.here hx rfl (hb hby at_544) rfl rfl (XS.aload X413.here hx rfl (hb hby at_546) rfl rfl kz)) ?_
        have f439 := ((f398.keep Kq404).keep Kq413)
        obtain ⟨cq438, kq438, q438a, q438b, q438c⟩ := isOf hZ rfl f439
        obtain ⟨_, _, ⟨T438, L438, k438, n438⟩, -, X438, ⟨Lc438, hQ438, l438, y438, z438⟩, st438⟩ := X413.virtualBack hx (y := (⟨"com/example/killdeer/killdeer/GadgetView", "equals", "(Ljava/lang/Object;)Z"⟩ : MethodName)) (z := (⟨"com/example/killdeer/killdeer/GadgetView", "equals", "(Ljava/lang/Object;)Z"⟩ : MethodName)) hown (mvT hZ (wd hw 61 rfl)) (mvT hZ (wd hw 62 rfl)) (notFace_of_selects (args := #[]) (mvT hZ (wd hw 64 rfl))) (mvT hZ (wd hw 64 rfl)) (mvT hZ (wd hw 63 rfl)) (by decide) (backOf (W := 0) (r8_same l Z a0 hw [] T413.heap n0 Z413 b17) hZ (wd hw 65 rfl) (wd hw 12 rfl) (by decide) (by decide)) q438a q438c (g := (mkF m 548 #[lv p1, .second, lv p2, .second, lv p3, .second, lv p4, .second, iv p5, iv p6, rv b1, iv z1, iv z2, iv oi, iv oj, iv ch0, iv ch1, iv ch2, iv zB, iv 2, iv 1, rv b17, iv z1, rv b361, lv p1, .second, lv p2, .second, lv p3, .second, lv p4, .second, rv (own_o w oi), rv b374, iv ze, .unset] [(.ref b17), (.ref b17)])) rfl (by rw [hml]; rfl) (Steps.refl _) (argsL := [(.ref b17)]) (rest := []) (lenOf pd2 rfl) rfl (by show 2 * 0 + _ ≤ _; exact Nat.le_of_eq rfl) (hb hby at_548) (fun _ _ => ⟨rfl, rfl, (by decide : 9 + 0 ≤ _), (by decide : 33 + 0 ≤ _)⟩)
        dsimp only [Pt.U, Pt.locs, Pt.cells, Pt.slots] at X438 l438 y438 z438 st438 hQ438
        subst l438 y438 z438
        obtain ⟨rfl, Nq438, e438⟩ := hQ438
        have N438 := Fr.app N413 Nq438
        refine Goes.tr st438 ?_
        show Goes p e below (T438.setTop (mkF m 551 #[lv p1, .second, lv p2, .second, lv p3, .second, lv p4, .second, iv p5, iv p6, rv b1, iv z1, iv z2, iv oi, iv oj, iv ch0, iv ch1, iv ch2, iv zB, iv 2, iv 1, rv b17, iv z1, rv b361, lv p1, .second, lv p2, .second, lv p3, .second, lv p4, .second, rv (own_o w oi), rv b374, iv ze, .unset] [(.int 1)])) _
        obtain ⟨fs, hr, hrun, hended, hW, hsame⟩ := X438.leave (v := some (.int 1)) (fun h => by rw [Bd.returns] at h; cases h)
        exact ⟨_, _, retN X438 hx (t := .boolean) Bd.returns (by simp) (hb hby at_551) hr, hrun, hended, _, _, rfl, ⟨rfl, N438⟩, ⟨_, rfl⟩, hW, hsame.mono (by decide) (by decide)⟩
      · show Goes p e below (T413.setTop (mkF m 538 #[lv p1, .second, lv p2, .second, lv p3, .second, lv p4, .second, iv p5, iv p6, rv b1, iv z1, iv z2, iv oi, iv oj, iv ch0, iv ch1, iv ch2, iv zB, iv 2, iv 2, rv b17, iv z1, rv b361, lv p1, .second, lv p2, .second, lv p3, .second, lv p4, .second, rv (own_o w oi), rv b374, iv ze, .unset] [])) _
        refine Goes.by (fun _ kz => XS.iload X413.here hx rfl (hb hby at_538) rfl (XS.iconst X413.here hx rfl (hb hby at_540) (XS.icmpYes X413.here hx rfl (pc0 := 541) (pc' := 552) rfl (hb hby at_541) rfl (feq (by decide : ¬ ((2 : Int32) = (1 : Int32)))).2 (by decide) (by decide) kz))) ?_
        show Goes p e below (T413.setTop (mkF m 552 #[lv p1, .second, lv p2, .second, lv p3, .second, lv p4, .second, iv p5, iv p6, rv b1, iv z1, iv z2, iv oi, iv oj, iv ch0, iv ch1, iv ch2, iv zB, iv 2, iv 2, rv b17, iv z1, rv b361, lv p1, .second, lv p2, .second, lv p3, .second, lv p4, .second, rv (own_o w oi), rv b374, iv ze, .unset] [])) _
        refine Goes.by (fun _ kz => XS.iload X413.here hx rfl (hb hby at_552) rfl (XS.iconst X413.here hx rfl (hb hby at_554) (XS.icmpNo X413.here hx rfl (hb hby at_555) rfl (teq (by decide : (2 : Int32) = (2 : Int32))).2 kz))) ?_
        show Goes p e below (T413.setTop (mkF m 558 #[lv p1, .second, lv p2, .second, lv p3, .second, lv p4, .second, iv p5, iv p6, rv b1, iv z1, iv z2, iv oi, iv oj, iv ch0, iv ch1, iv ch2, iv zB, iv 2, iv 2, rv b17, iv z1, rv b361, lv p1, .second, lv p2, .second, lv p3, .second, lv p4, .second, rv (own_o w oi), rv b374, iv ze, .unset] [])) _
        refine Goes.by (fun _ kz => XS.aload X413.here hx rfl (hb hby at_558) rfl rfl (XS.aconstNull X413.here hx rfl (hb hby at_560) kz)) ?_
        have f441 := ((f398.keep Kq404).keep Kq413)
        obtain ⟨cq440, kq440, q440a, q440b, q440c⟩ := isOf hZ rfl f441
        obtain ⟨_, _, ⟨T440, L440, k440, n440⟩, -, X440, ⟨Lc440, hQ440, l440, y440, z440⟩, st440⟩ := X413.virtualBack hx (y := (⟨"com/example/killdeer/killdeer/GadgetView", "equals", "(Ljava/lang/Object;)Z"⟩ : MethodName)) (z := (⟨"com/example/killdeer/killdeer/GadgetView", "equals", "(Ljava/lang/Object;)Z"⟩ : MethodName)) hown (mvT hZ (wd hw 61 rfl)) (mvT hZ (wd hw 62 rfl)) (notFace_of_selects (args := #[]) (mvT hZ (wd hw 64 rfl))) (mvT hZ (wd hw 64 rfl)) (mvT hZ (wd hw 63 rfl)) (by decide) (backOf (W := 0) (r8_null l Z a0 hw [] T413.heap n0 Z413 b17) hZ (wd hw 65 rfl) (wd hw 12 rfl) (by decide) (by decide)) q440a q440c (g := (mkF m 561 #[lv p1, .second, lv p2, .second, lv p3, .second, lv p4, .second, iv p5, iv p6, rv b1, iv z1, iv z2, iv oi, iv oj, iv ch0, iv ch1, iv ch2, iv zB, iv 2, iv 2, rv b17, iv z1, rv b361, lv p1, .second, lv p2, .second, lv p3, .second, lv p4, .second, rv (own_o w oi), rv b374, iv ze, .unset] [.null, (.ref b17)])) rfl (by rw [hml]; rfl) (Steps.refl _) (argsL := [.null]) (rest := []) (lenOf pd2 rfl) rfl (by show 2 * 0 + _ ≤ _; exact Nat.le_of_eq rfl) (hb hby at_561) (fun _ _ => ⟨rfl, rfl, (by decide : 9 + 0 ≤ _), (by decide : 33 + 0 ≤ _)⟩)
        dsimp only [Pt.U, Pt.locs, Pt.cells, Pt.slots] at X440 l440 y440 z440 st440 hQ440
        subst l440 y440 z440
        obtain ⟨rfl, Nq440, e440⟩ := hQ440
        have N440 := Fr.app N413 Nq440
        refine Goes.tr st440 ?_
        refine Goes.by (fun _ kz => XS.ifNo X440.here hx rfl (hb hby at_564) rfl ((if0 _ _).trans (teq (by decide : (0 : Int32) = (0 : Int32))).2) (XS.iconst X440.here hx rfl (hb hby at_567) (XS.goto X440.here hx rfl (pc0 := 568) (pc' := 572) rfl (hb hby at_568) (by decide) (by decide) kz))) ?_
        show Goes p e below (T440.setTop (mkF m 572 #[lv p1, .second, lv p2, .second, lv p3, .second, lv p4, .second, iv p5, iv p6, rv b1, iv z1, iv z2, iv oi, iv oj, iv ch0, iv ch1, iv ch2, iv zB, iv 2, iv 2, rv b17, iv z1, rv b361, lv p1, .second, lv p2, .second, lv p3, .second, lv p4, .second, rv (own_o w oi), rv b374, iv ze, .unset] [(.int 1)])) _
        obtain ⟨fs, hr, hrun, hended, hW, hsame⟩ := X440.leave (v := some (.int 1)) (fun h => by rw [Bd.returns] at h; cases h)
        exact ⟨_, _, retN X440 hx (t := .boolean) Bd.returns (by simp) (hb hby at_572) hr, hrun, hended, _, _, rfl, ⟨rfl, N440⟩, ⟨_, rfl⟩, hW, hsame.mono (by decide) (by decide)⟩
      · show Goes p e below (T413.setTop (mkF m 538 #[lv p1, .second, lv p2, .second, lv p3, .second, lv p4, .second, iv p5, iv p6, rv b1, iv z1, iv z2, iv oi, iv oj, iv ch0, iv ch1, iv ch2, iv zB, iv 2, iv 3, rv b17, iv z1, rv b361, lv p1, .second, lv p2, .second, lv p3, .second, lv p4, .second, rv (own_o w oi), rv b374, iv ze, .unset] [])) _
        refine Goes.by (fun _ kz => XS.iload X413.here hx rfl (hb hby at_538) rfl (XS.iconst X413.here hx rfl (hb hby at_540) (XS.icmpYes X413.here hx rfl (pc0 := 541) (pc' := 552) rfl (hb hby at_541) rfl (feq (by decide : ¬ ((3 : Int32) = (1 : Int32)))).2 (by decide) (by decide) kz))) ?_
        show Goes p e below (T413.setTop (mkF m 552 #[lv p1, .second, lv p2, .second, lv p3, .second, lv p4, .second, iv p5, iv p6, rv b1, iv z1, iv z2, iv oi, iv oj, iv ch0, iv ch1, iv ch2, iv zB, iv 2, iv 3, rv b17, iv z1, rv b361, lv p1, .second, lv p2, .second, lv p3, .second, lv p4, .second, rv (own_o w oi), rv b374, iv ze, .unset] [])) _
        refine Goes.by (fun _ kz => XS.iload X413.here hx rfl (hb hby at_552) rfl (XS.iconst X413.here hx rfl (hb hby at_554) (XS.icmpYes X413.here hx rfl (pc0 := 555) (pc' := 573) rfl (hb hby at_555) rfl (feq (by decide : ¬ ((3 : Int32) = (2 : Int32)))).2 (by decide) (by decide) kz))) ?_
        show Goes p e below (T413.setTop (mkF m 573 #[lv p1, .second, lv p2, .second, lv p3, .second, lv p4, .second, iv p5, iv p6, rv b1, iv z1, iv z2, iv oi, iv oj, iv ch0, iv ch1, iv ch2, iv zB, iv 2, iv 3, rv b17, iv z1, rv b361, lv p1, .second, lv p2, .second, lv p3, .second, lv p4, .second, rv (own_o w oi), rv b374, iv ze, .unset] [])) _
        refine Goes.by (fun _ kz => XS.iload X413.here hx rfl (hb hby at_573) rfl (XS.iconst X413.here hx rfl (hb hby at_575) (XS.icmpNo X413.here hx rfl (hb hby at_576) rfl (teq (by decide : (3 : Int32) = (3 : Int32))).2 kz))) ?_
        have f443 := ((f394.keep Kq404).keep Kq413)
        have f444 := ((f395.keep Kq404).keep Kq413)
        have f445 := ((f396.keep Kq404).keep Kq413)
        have f446 := ((f397.keep Kq404 (ninS ne382_b1 nin0)).keep Kq413 (ninS ne374_b1 nin0))
        have f447 := ((f398.keep Kq404).keep Kq413)
        have f448 := ((f399.keep Kq404).keep Kq413)
        have f449 := ((f400.keep Kq404 (ninS ne382_b26 nin0)).keep Kq413 (ninS ne374_b26 nin0))
        have f450 := ((f401.keep Kq404 (ninS ne382_t44 nin0)).keep Kq413 (ninS ne374_t44 nin0))
        have f451 := ((f392.keep Kq404 (ninS ne382_b361 nin0)).keep Kq413 (ninS ne374_b361 nin0))
        have f452 := (f405.keep Kq413)
        have f453 := ((A382.keep Kq404).keep Kq413)
        have f454 := (gA404.keep Kq413 (ninS (Ne.symm net404_b374) nin0))
        obtain ⟨T442, h442, X442, e442, E442, A442, D442, -, st442⟩ := newO X413 hx hZ hown (wd hw 13 rfl) (wd hw 14 rfl) (wd hw 15 rfl) rfl (g := (mkF m 579 #[lv p1, .second, lv p2, .second, lv p3, .second, lv p4, .second, iv p5, iv p6, rv b1, iv z1, iv z2, iv oi, iv oj, iv ch0, iv ch1, iv ch2, iv zB, iv 2, iv 3, rv b17, iv z1, rv b361, lv p1, .second, lv p2, .second, lv p3, .second, lv p4, .second, rv (own_o w oi), rv b374, iv ze, .unset] [])) rfl (hb hby at_579) (by decide) (by decide)
        obtain ⟨b442, g442⟩ : ∃ z, z = T413.heap.size := ⟨_, rfl⟩
        rw [← g442] at A442 D442 st442
        have ne442__w_0_ : (w 0) ≠ b442 := Nat.ne_of_lt (Nat.lt_of_lt_of_le f443.lt (Nat.le_of_eq g442.symm))
        have ne442__w_1_ : (w 1) ≠ b442 := Nat.ne_of_lt (Nat.lt_of_lt_of_le f444.lt (Nat.le_of_eq g442.symm))
        have ne442__w_2_ : (w 2) ≠ b442 := Nat.ne_of_lt (Nat.lt_of_lt_of_le f445.lt (Nat.le_of_eq g442.symm))
        have ne442_b1 : b1 ≠ b442 := Nat.ne_of_lt (Nat.lt_of_lt_of_le f446.lt (Nat.le_of_eq g442.symm))
        have ne442_b17 : b17 ≠ b442 := Nat.ne_of_lt (Nat.lt_of_lt_of_le f447.lt (Nat.le_of_eq g442.symm))
        have ne442_b21 : b21 ≠ b442 := Nat.ne_of_lt (Nat.lt_of_lt_of_le f448.lt (Nat.le_of_eq g442.symm))
        have ne442_b26 : b26 ≠ b442 := Nat.ne_of_lt (Nat.lt_of_lt_of_le f449.lt (Nat.le_of_eq g442.symm))
        have ne442_t44 : t44 ≠ b442 := Nat.ne_of_lt (Nat.lt_of_lt_of_le f450.lt (Nat.le_of_eq g442.symm))
        have ne442_b361 : b361 ≠ b442 := Nat.ne_of_lt (Nat.lt_of_lt_of_le f451.lt (Nat.le_of_eq g442.symm))
        have ne442_b374 : b374 ≠ b442 := Nat.ne_of_lt (Nat.lt_of_lt_of_le f452.lt (Nat.le_of_eq g442.symm))
        have ne442_b382 : b382 ≠ b442 := Nat.ne_of_lt (Nat.lt_of_lt_of_le f453.lt (Nat.le_of_eq g442.symm))
        have ne442_t404 : t404 ≠ b442 := Nat.ne_of_lt (Nat.lt_of_lt_of_le f454.lt (Nat.le_of_eq g442.symm))
        have g_b442 : n0 ≤ b442 := Nat.le_trans Z413 (Nat.le_of_eq g442.symm)
        have sz_b442 : h0.size ≤ b442 := Nat.le_trans K413.1 (Nat.le_of_eq g442.symm)
        have F442_coder : Fld Z h442 b442 "java/lang/String" "coder" "B" (.int 0) := D442 (Or.inr (wd hw 40 rfl)) (ty := .byte) (by decide)
        have F442_value : Fld Z h442 b442 "java/lang/String" "value" "[B" .null := D442 (Or.inr (wd hw 42 rfl)) (ty := (.array .byte)) (by decide)
        have K442 : Keep h0 h442 [] := Keep.ext K413 E442
        have Z442 : n0 ≤ h442.size := Nat.le_trans Z413 E442.1
        refine Goes.by st442 ?_
        refine Goes.by (fun _ kz => XS.dup X442.here hx rfl (hb hby at_582) rfl rfl (XS.iconst X442.here hx rfl (hb hby at_583) kz)) ?_
        have f456 := (f443.ext E442)
        have f457 := (f444.ext E442)
        have f458 := (f445.ext E442)
        have f459 := (f446.ext E442)
        have f460 := (f447.ext E442)
        have f461 := (f448.ext E442)
        have f462 := (f449.ext E442)
        have f463 := (f450.ext E442)
        have f464 := (f451.ext E442)
        have f465 := (f452.ext E442)
        have f466 := (f453.ext E442)
        have f467 := (f454.ext E442)
        obtain ⟨T455, h455, k455, X455, e455, E455, A455, st455⟩ := newP X442 hx hZ (wd hw 16 rfl) e442 (g := (mkF m 584 #[lv p1, .second, lv p2, .second, lv p3, .second, lv p4, .second, iv p5, iv p6, rv b1, iv z1, iv z2, iv oi, iv oj, iv ch0, iv ch1, iv ch2, iv zB, iv 2, iv 3, rv b17, iv z1, rv b361, lv p1, .second, lv p2, .second, lv p3, .second, lv p4, .second, rv (own_o w oi), rv b374, iv ze, .unset] [(.int 1), (.ref b442), (.ref b442)])) rfl (hb hby at_584) rfl (by decide) (cap := 1) (by decide) (by decide) (by decide) (by decide)
        obtain ⟨b455, g455⟩ : ∃ z, z = h442.size := ⟨_, rfl⟩
        rw [← g455] at A455 st455
        have ne455__w_0_ : (w 0) ≠ b455 := Nat.ne_of_lt (Nat.lt_of_lt_of_le f456.lt (Nat.le_of_eq g455.symm))
        have ne455__w_1_ : (w 1) ≠ b455 := Nat.ne_of_lt (Nat.lt_of_lt_of_le f457.lt (Nat.le_of_eq g455.symm))
        have ne455__w_2_ : (w 2) ≠ b455 := Nat.ne_of_lt (Nat.lt_of_lt_of_le f458.lt (Nat.le_of_eq g455.symm))
        have ne455_b1 : b1 ≠ b455 := Nat.ne_of_lt (Nat.lt_of_lt_of_le f459.lt (Nat.le_of_eq g455.symm))
        have ne455_b17 : b17 ≠ b455 := Nat.ne_of_lt (Nat.lt_of_lt_of_le f460.lt (Nat.le_of_eq g455.symm))
        have ne455_b21 : b21 ≠ b455 := Nat.ne_of_lt (Nat.lt_of_lt_of_le f461.lt (Nat.le_of_eq g455.symm))
        have ne455_b26 : b26 ≠ b455 := Nat.ne_of_lt (Nat.lt_of_lt_of_le f462.lt (Nat.le_of_eq g455.symm))
        have ne455_t44 : t44 ≠ b455 := Nat.ne_of_lt (Nat.lt_of_lt_of_le f463.lt (Nat.le_of_eq g455.symm))
        have ne455_b361 : b361 ≠ b455 := Nat.ne_of_lt (Nat.lt_of_lt_of_le f464.lt (Nat.le_of_eq g455.symm))
        have ne455_b374 : b374 ≠ b455 := Nat.ne_of_lt (Nat.lt_of_lt_of_le f465.lt (Nat.le_of_eq g455.symm))
        have ne455_b382 : b382 ≠ b455 := Nat.ne_of_lt (Nat.lt_of_lt_of_le f466.lt (Nat.le_of_eq g455.symm))
        have ne455_t404 : t404 ≠ b455 := Nat.ne_of_lt (Nat.lt_of_lt_of_le f467.lt (Nat.le_of_eq g455.symm))
        have ne455_b442 : b442 ≠ b455 := Nat.ne_of_lt (Nat.lt_of_lt_of_le A442.lt (Nat.le_of_eq g455.symm))
        have g_b455 : n0 ≤ b455 := Nat.le_trans Z442 (Nat.le_of_eq g455.symm)
        have sz_b455 : h0.size ≤ b455 := Nat.le_trans K442.1 (Nat.le_of_eq g455.symm)
        have V455 : Arv Z h455 b455 k455 .char (1 : Int32) [(.int 0)] (.int 0) := (Arv.new A455 (by decide)).pad (pad_rep [] (.int 0) 1)
        have K455 : Keep h0 h455 [] := Keep.ext K442 E455
        have Z455 : n0 ≤ h455.size := Nat.le_trans Z442 E455.1
        refine Goes.by st455 ?_
        refine Goes.by (fun _ kz => XS.dup X455.here hx rfl (hb hby at_586) rfl rfl (XS.iconst X455.here hx rfl (hb hby at_587) (XS.iload X455.here hx rfl (hb hby at_588) rfl kz))) ?_
        obtain ⟨cl468, Ar468, Cq468, Sz468, Nn468, Hh468, Gg468⟩ := id V455
        have hin468 : ¬ ((0 : Int32) < 0 ∨ cl468.slots.size ≤ ((0 : Int32)).toNatClampNeg) := inb_of Sz468 ⟨by decide, by decide⟩
        obtain ⟨T468, h468, X468, e468, W468, st468⟩ := stC X455 hx hZ e455 Ar468 (j := (0 : Int32)) hin468 (g := (mkF m 590 #[lv p1, .second, lv p2, .second, lv p3, .second, lv p4, .second, iv p5, iv p6, rv b1, iv z1, iv z2, iv oi, iv oj, iv ch0, iv ch1, iv ch2, iv zB, iv 2, iv 3, rv b17, iv z1, rv b361, lv p1, .second, lv p2, .second, lv p3, .second, lv p4, .second, rv (own_o w oi), rv b374, iv ze, .unset] [(.int ch0), (.int 0), (.ref b455), (.ref b455), (.ref b442), (.ref b442)])) rfl rfl (hb hby at_590)
        have V468 : Arv Z h468 b455 k455 .char (1 : Int32) [(.int (nar .char ch0))] (.int 0) := Arv.set Ar468 Cq468 Sz468 Nn468 Hh468 Gg468 (fits_nar_char _) W468 0 rfl (Nat.le_of_ble_eq_true rfl)
        rw [hn_ch0] at V468
        have K468 : Keep h0 h468 [] := Keep.wr K455 W468 (Or.inr sz_b455)
        have Z468 : n0 ≤ h468.size := Nat.le_trans Z455 (Keep.of_wr W468).1
        have N468 := Fr.snoc X468 N413 g_b455
        refine Goes.by st468 ?_
        show Goes p e below (T468.setTop (mkF m 591 #[lv p1, .second, lv p2, .second, lv p3, .second, lv p4, .second, iv p5, iv p6, rv b1, iv z1, iv z2, iv oi, iv oj, iv ch0, iv ch1, iv ch2, iv zB, iv 2, iv 3, rv b17, iv z1, rv b361, lv p1, .second, lv p2, .second, lv p3, .second, lv p4, .second, rv (own_o w oi), rv b374, iv ze, .unset] [(.ref b455), (.ref b442), (.ref b442)])) _
        have f469 := (Exa.wr W468 (A442.ext E455))
        have f470 := (Fld.other W468 (F442_value.ext E455) (Or.inl ne455_b442))
        have f471 := (Fld.other W468 (F442_coder.ext E455) (Or.inl ne455_b442))
        have f472 := (Sta.wr W468 (((own_staKeep (own_staKeep f393 Kq404 (allS (own_nsE A382) all0)) Kq413 (allS (own_nsE f405) all0)).ext E442).ext E455))
        have f473 := (Exa.wr W468 (f456.ext E455))
        have f474 := (Exa.wr W468 (f457.ext E455))
        have f475 := (Exa.wr W468 (f458.ext E455))
        have f476 := ((f459.ext E455).other W468 ne455_b1)
        have f477 := (Exa.wr W468 (f460.ext E455))
        have f478 := (Exa.wr W468 (f461.ext E455))
        have f479 := ((f462.ext E455).other W468 ne455_b26)
        have f480 := ((f463.ext E455).other W468 ne455_t44)
        have f481 := ((f464.ext E455).other W468 ne455_b361)
        have f482 := (Exa.wr W468 (f465.ext E455))
        have f483 := (Exa.wr W468 (f466.ext E455))
        have f484 := ((f467.ext E455).other W468 ne455_t404)
        have hp485 : ∀ c ∈ ([ch0] : List Int32), ¬ c < 0 ∧ ¬ (255 : Int32) < c := by
          intro c hc; simp only [List.mem_cons, List.not_mem_nil, or_false] at hc
          rw [hc]; exact hb_ch0
        have hcd485 : StrChars.Road.CodA ([ch0] : List Int32) 0 (1 : Int32) ((([ch0] : List Int32).map (fun c => c.toInt8.toInt32)).map Value.int) := StrChars.Road.codOf (n := 1) rfl (fun c hc => (hp485 c hc).2)
        have hbd485 := own_up _ hp485
        obtain ⟨_, _, ⟨T486, L486, k486, n486⟩, -, X486, ⟨Lc486, hQ486, l486, y486, z486⟩, st486⟩ := X468.specialBack hx (y := (⟨"java/lang/String", "<init>", "([C)V"⟩ : MethodName)) rfl hown (mvT hZ (wd hw 17 rfl)) (mvT hZ (wd hw 18 rfl)) (mvT hZ (wd hw 19 rfl)) (by decide) (StrChars.Road.backV (W := 1) hZ hws (kI := 4) (wd hw 14 rfl) (cs := ([ch0] : List Int32)) (bs := (([ch0] : List Int32).map (fun c => c.toInt8.toInt32))) (n := 1) g_b442 Z468 f469 f470 f471 V468 f472 hzc rfl rfl (by decide) (by decide) hp485 rfl (by decide) (by decide)) (g := (mkF m 591 #[lv p1, .second, lv p2, .second, lv p3, .second, lv p4, .second, iv p5, iv p6, rv b1, iv z1, iv z2, iv oi, iv oj, iv ch0, iv ch1, iv ch2, iv zB, iv 2, iv 3, rv b17, iv z1, rv b361, lv p1, .second, lv p2, .second, lv p3, .second, lv p4, .second, rv (own_o w oi), rv b374, iv ze, .unset] [(.ref b455), (.ref b442), (.ref b442)])) rfl (by rw [hml]; rfl) (Steps.refl _) (a := b442) (argsL := [(.ref b455)]) (rest := [(.ref b442)]) (lenOf pd0 rfl) rfl (by show 2 * 0 + _ ≤ _; exact Nat.le_of_eq rfl) (hb hby at_591) (fun _ _ => ⟨rfl, e468, (by decide : 11 + 1 ≤ _), (by decide : 38 + 1 ≤ _)⟩)
        dsimp only [Pt.U, Pt.locs, Pt.cells, Pt.slots] at X486 l486 y486 z486 st486 hQ486
        subst l486 y486 z486
        obtain ⟨rfl, Nq486, Kq486, gE486, gC486, t486, kb486, u1_486, u2_486, u3_486, gV486, gA486⟩ := hQ486
        have K486 : Keep h0 T486.heap [] := Keep.trans K468 Kq486 (allS (Or.inr sz_b442) all0)
        have Z486 : n0 ≤ T486.heap.size := Nat.le_trans Z468 Kq486.1
        have net486__w_0_ : (w 0) ≠ t486 := Nat.ne_of_lt (Nat.lt_of_lt_of_le f473.lt u2_486)
        have net486__w_1_ : (w 1) ≠ t486 := Nat.ne_of_lt (Nat.lt_of_lt_of_le f474.lt u2_486)
        have net486__w_2_ : (w 2) ≠ t486 := Nat.ne_of_lt (Nat.lt_of_lt_of_le f475.lt u2_486)
        have net486_b1 : b1 ≠ t486 := Nat.ne_of_lt (Nat.lt_of_lt_of_le f476.lt u2_486)
        have net486_b17 : b17 ≠ t486 := Nat.ne_of_lt (Nat.lt_of_lt_of_le f477.lt u2_486)
        have net486_b21 : b21 ≠ t486 := Nat.ne_of_lt (Nat.lt_of_lt_of_le f478.lt u2_486)
        have net486_b26 : b26 ≠ t486 := Nat.ne_of_lt (Nat.lt_of_lt_of_le f479.lt u2_486)
        have net486_t44 : t44 ≠ t486 := Nat.ne_of_lt (Nat.lt_of_lt_of_le f480.lt u2_486)
        have net486_b361 : b361 ≠ t486 := Nat.ne_of_lt (Nat.lt_of_lt_of_le f481.lt u2_486)
        have net486_b374 : b374 ≠ t486 := Nat.ne_of_lt (Nat.lt_of_lt_of_le f482.lt u2_486)
        have net486_b382 : b382 ≠ t486 := Nat.ne_of_lt (Nat.lt_of_lt_of_le f483.lt u2_486)
        have net486_t404 : t404 ≠ t486 := Nat.ne_of_lt (Nat.lt_of_lt_of_le f484.lt u2_486)
        have net486_b442 : b442 ≠ t486 := Nat.ne_of_lt (Nat.lt_of_lt_of_le f469.lt u2_486)
        have net486_b455 : b455 ≠ t486 := Nat.ne_of_lt (Nat.lt_of_lt_of_le V468.lt u2_486)
        have g_t486 : n0 ≤ t486 := Nat.le_trans Z468 u2_486
        have sz_t486 : h0.size ≤ t486 := Nat.le_trans K468.1 u2_486
        have N486 := Fr.app N468 Nq486
        refine Goes.tr st486 ?_
        refine Goes.by (fun _ kz => XS.astore X486.here hx rfl (hb hby at_594) rfl rfl rfl (XS.aload X486.here hx rfl (hb hby at_596) rfl rfl (XS.aload X486.here hx rfl (hb hby at_598) rfl rfl kz))) ?_
        have f487 := (f469.keep Kq486)
        have f489 := (f477.keep Kq486)
        obtain ⟨cq488, kq488, q488a, q488b, q488c⟩ := isOf hZ rfl f489
        obtain ⟨_, _, ⟨T488, L488, k488, n488⟩, -, X488, ⟨Lc488, hQ488, l488, y488, z488⟩, st488⟩ := X486.virtualBack hx (y := (⟨"com/example/killdeer/killdeer/GadgetView", "equals", "(Ljava/lang/Object;)Z"⟩ : MethodName)) (z := (⟨"com/example/killdeer/killdeer/GadgetView", "equals", "(Ljava/lang/Object;)Z"⟩ : MethodName)) hown (mvT hZ (wd hw 61 rfl)) (mvT hZ (wd hw 62 rfl)) (notFace_of_selects (args := #[]) (mvT hZ (wd hw 64 rfl))) (mvT hZ (wd hw 64 rfl)) (mvT hZ (wd hw 63 rfl)) (by decide) (backOf (W := 0) (r8_str l Z a0 hw [] T486.heap n0 Z486 b17 b442 f487 ne442_b17) hZ (wd hw 65 rfl) (wd hw 12 rfl) (by decide) (by decide)) q488a q488c (g := (mkF m 600 #[lv p1, .second, lv p2, .second, lv p3, .second, lv p4, .second, iv p5, iv p6, rv b1, iv z1, iv z2, iv oi, iv oj, iv ch0, iv ch1, iv ch2, iv zB, iv 2, iv 3, rv b17, iv z1, rv b361, lv p1, .second, lv p2, .second, lv p3, .second, lv p4, .second, rv (own_o w oi), rv b374, iv ze, rv b442] [(.ref b442), (.ref b17)])) rfl (by rw [hml]; rfl) (Steps.refl _) (argsL := [(.ref b442)]) (rest := []) (lenOf pd2 rfl) rfl (by show 2 * 0 + _ ≤ _; exact Nat.le_of_eq rfl) (hb hby at_600) (fun _ _ => ⟨rfl, rfl, (by decide : 12 + 0 ≤ _), (by decide : 39 + 0 ≤ _)⟩)
        dsimp only [Pt.U, Pt.locs, Pt.cells, Pt.slots] at X488 l488 y488 z488 st488 hQ488
        subst l488 y488 z488
        obtain ⟨rfl, Nq488, e488⟩ := hQ488
        have N488 := Fr.app N486 Nq488
        refine Goes.tr st488 ?_
        refine Goes.by (fun _ kz => XS.ifNo X488.here hx rfl (hb hby at_603) rfl ((if0 _ _).trans (teq (by decide : (0 : Int32) = (0 : Int32))).2) (XS.iconst X488.here hx rfl (hb hby at_606) (XS.goto X488.here hx rfl (pc0 := 607) (pc' := 611) rfl (hb hby at_607) (by decide) (by decide) kz))) ?_
        show Goes p e below (T488.setTop (mkF m 611 #[lv p1, .second, lv p2, .second, lv p3, .second, lv p4, .second, iv p5, iv p6, rv b1, iv z1, iv z2, iv oi, iv oj, iv ch0, iv ch1, iv ch2, iv zB, iv 2, iv 3, rv b17, iv z1, rv b361, lv p1, .second, lv p2, .second, lv p3, .second, lv p4, .second, rv (own_o w oi), rv b374, iv ze, rv b442] [(.int 1)])) _
        obtain ⟨fs, hr, hrun, hended, hW, hsame⟩ := X488.leave (v := some (.int 1)) (fun h => by rw [Bd.returns] at h; cases h)
        exact ⟨_, _, retN X488 hx (t := .boolean) Bd.returns (by simp) (hb hby at_611) hr, hrun, hended, _, _, rfl, ⟨rfl, N488⟩, ⟨_, rfl⟩, hW, hsame.mono (by decide) (by decide)⟩
    · refine Goes.by (fun _ kz => XS.ifNo X81.here hx rfl (hb hby at_209) rfl ((if0 _ _).trans (feq hc360).1) (XS.iconst X81.here hx rfl (hb hby at_212) kz)) ?_
      have f491 := ((f38.keep Kq44).keep Kq81)
      have f492 := ((f39.keep Kq44).keep Kq81)
      have f493 := ((f40.keep Kq44).keep Kq81)
      have f494 := (f46.keep Kq81 (ninS ne17_b1 nin0))
      have f495 := (f73.keep Kq81)
      have f496 := ((f34.keep Kq44).keep Kq81)
      have f497 := ((V33.keep Kq44 (ninS (Ne.symm ne26_b21) nin0)).keep Kq81 (ninS (Ne.symm ne26_b17) nin0))
      have f498 := (gA44.keep Kq81 (ninS (Ne.symm net44_b17) nin0))
      obtain ⟨T490, h490, k490, X490, e490, E490, A490, st490⟩ := newP X81 hx hZ (wd hw 16 rfl) rfl (g := (mkF m 213 #[lv p1, .second, lv p2, .second, lv p3, .second, lv p4, .second, iv p5, iv p6, rv b1, iv z1, iv z2, iv oi, iv oj, iv ch0, iv ch1, iv ch2, iv zB, iv 2, iv (((p6.toUInt32 >>> ((4 : Int32) &&& 31).toUInt32).toInt32) &&& (3 : Int32)), rv b17, iv z1, .unset, .unset, .unset, .unset, .unset, .unset, .unset, .unset, .unset, .unset, .unset, .unset, .unset] [(.int 1)])) rfl (hb hby at_213) rfl (by decide) (cap := 1) (by decide) (by decide) (by decide) (by decide)
      obtain ⟨b490, g490⟩ : ∃ z, z = T81.heap.size := ⟨_, rfl⟩
      rw [← g490] at A490 st490
      have ne490__w_0_ : (w 0) ≠ b490 := Nat.ne_of_lt (Nat.lt_of_lt_of_le f491.lt (Nat.le_of_eq g490.symm))
      have ne490__w_1_ : (w 1) ≠ b490 := Nat.ne_of_lt (Nat.lt_of_lt_of_le f492.lt (Nat.le_of_eq g490.symm))
      have ne490__w_2_ : (w 2) ≠ b490 := Nat.ne_of_lt (Nat.lt_of_lt_of_le f493.lt (Nat.le_of_eq g490.symm))
      have ne490_b1 : b1 ≠ b490 := Nat.ne_of_lt (Nat.lt_of_lt_of_le f494.lt (Nat.le_of_eq g490.symm))
      have ne490_b17 : b17 ≠ b490 := Nat.ne_of_lt (Nat.lt_of_lt_of_le f495.lt (Nat.le_of_eq g490.symm))
      have ne490_b21 : b21 ≠ b490 := Nat.ne_of_lt (Nat.lt_of_lt_of_le f496.lt (Nat.le_of_eq g490.symm))
      have ne490_b26 : b26 ≠ b490 := Nat.ne_of_lt (Nat.lt_of_lt_of_le f497.lt (Nat.le_of_eq g490.symm))
      have ne490_t44 : t44 ≠ b490 := Nat.ne_of_lt (Nat.lt_of_lt_of_le f498.lt (Nat.le_of_eq g490.symm))
      have g_b490 : n0 ≤ b490 := Nat.le_trans Z81 (Nat.le_of_eq g490.symm)
      have sz_b490 : h0.size ≤ b490 := Nat.le_trans K81.1 (Nat.le_of_eq g490.symm)
      have V490 : Arv Z h490 b490 k490 .char (1 : Int32) [(.int 0)] (.int 0) := (Arv.new A490 (by decide)).pad (pad_rep [] (.int 0) 1)
      have K490 : Keep h0 h490 [] := Keep.ext K81 E490
      have Z490 : n0 ≤ h490.size := Nat.le_trans Z81 E490.1
      refine Goes.by st490 ?_
      refine Goes.by (fun _ kz => XS.dup X490.here hx rfl (hb hby at_215) rfl rfl (XS.iconst X490.here hx rfl (hb hby at_216) (XS.iload X490.here hx rfl (hb hby at_217) rfl kz))) ?_
      obtain ⟨cl499, Ar499, Cq499, Sz499, Nn499, Hh499, Gg499⟩ := id V490
      have hin499 : ¬ ((0 : Int32) < 0 ∨ cl499.slots.size ≤ ((0 : Int32)).toNatClampNeg) := inb_of Sz499 ⟨by decide, by decide⟩
      obtain ⟨T499, h499, X499, e499, W499, st499⟩ := stC X490 hx hZ e490 Ar499 (j := (0 : Int32)) hin499 (g := (mkF m 219 #[lv p1, .second, lv p2, .second, lv p3, .second, lv p4, .second, iv p5, iv p6, rv b1, iv z1, iv z2, iv oi, iv oj, iv ch0, iv ch1, iv ch2, iv zB, iv 2, iv (((p6.toUInt32 >>> ((4 : Int32) &&& 31).toUInt32).toInt32) &&& (3 : Int32)), rv b17, iv z1, .unset, .unset, .unset, .unset, .unset, .unset, .unset, .unset, .unset, .unset, .unset, .unset, .unset] [(.int ch0), (.int 0), (.ref b490), (.ref b490)])) rfl rfl (hb hby at_219)
      have V499 : Arv Z h499 b490 k490 .char (1 : Int32) [(.int (nar .char ch0))] (.int 0) := Arv.set Ar499 Cq499 Sz499 Nn499 Hh499 Gg499 (fits_nar_char _) W499 0 rfl (Nat.le_of_ble_eq_true rfl)
      rw [hn_ch0] at V499
      have K499 : Keep h0 h499 [] := Keep.wr K490 W499 (Or.inr sz_b490)
      have Z499 : n0 ≤ h499.size := Nat.le_trans Z490 (Keep.of_wr W499).1
      have N499 := Fr.snoc X499 N81 g_b490
      refine Goes.by st499 ?_
      refine Goes.by (fun _ kz => XS.astore X499.here hx rfl (hb hby at_220) rfl rfl rfl (XS.goto X499.here hx rfl (pc0 := 222) (pc' := 258) rfl (hb hby at_222) (by decide) (by decide) (XS.iload X499.here hx rfl (hb hby at_258) rfl kz))) ?_
      show Goes p e below (T499.setTop (mkF m 260 #[lv p1, .second, lv p2, .second, lv p3, .second, lv p4, .second, iv p5, iv p6, rv b1, iv z1, iv z2, iv oi, iv oj, iv ch0, iv ch1, iv ch2, iv zB, iv 2, iv (((p6.toUInt32 >>> ((4 : Int32) &&& 31).toUInt32).toInt32) &&& (3 : Int32)), rv b17, iv z1, rv b490, .unset, .unset, .unset, .unset, .unset, .unset, .unset, .unset, .unset, .unset, .unset, .unset] [(.int 2)])) _
      refine Goes.by (fun _ kz => XS.iconst X499.here hx rfl (hb hby at_260) (XS.icmpYes X499.here hx rfl (pc0 := 261) (pc' := 269) rfl (hb hby at_261) rfl (feq (by decide : ¬ ((2 : Int32) = (3 : Int32)))).2 (by decide) (by decide) (XS.lloadN X499.here hx rfl (hb hby at_269) rfl kz))) ?_
      show Goes p e below (T499.setTop (mkF m 270 #[lv p1, .second, lv p2, .second, lv p3, .second, lv p4, .second, iv p5, iv p6, rv b1, iv z1, iv z2, iv oi, iv oj, iv ch0, iv ch1, iv ch2, iv zB, iv 2, iv (((p6.toUInt32 >>> ((4 : Int32) &&& 31).toUInt32).toInt32) &&& (3 : Int32)), rv b17, iv z1, rv b490, .unset, .unset, .unset, .unset, .unset, .unset, .unset, .unset, .unset, .unset, .unset, .unset] [(.long p1)])) _
      refine Goes.by (fun _ kz => XS.lstore X499.here hx rfl (hb hby at_270) rfl rfl (XS.iload X499.here hx rfl (hb hby at_272) rfl (XS.iconst X499.here hx rfl (hb hby at_274) kz))) ?_
      show Goes p e below (T499.setTop (mkF m 275 #[lv p1, .second, lv p2, .second, lv p3, .second, lv p4, .second, iv p5, iv p6, rv b1, iv z1, iv z2, iv oi, iv oj, iv ch0, iv ch1, iv ch2, iv zB, iv 2, iv (((p6.toUInt32 >>> ((4 : Int32) &&& 31).toUInt32).toInt32) &&& (3 : Int32)), rv b17, iv z1, rv b490, lv p1, .second, .unset, .unset, .unset, .unset, .unset, .unset, .unset, .unset, .unset, .unset] [(.int 4), (.int 2)])) _
      refine Goes.by (fun _ kz => XS.icmpYes X499.here hx rfl (pc0 := 275) (pc' := 283) rfl (hb hby at_275) rfl (feq (by decide : ¬ ((2 : Int32) = (4 : Int32)))).2 (by decide) (by decide) (XS.lloadN X499.here hx rfl (hb hby at_283) rfl (XS.lstore X499.here hx rfl (hb hby at_284) rfl rfl kz))) ?_
      show Goes p e below (T499.setTop (mkF m 286 #[lv p1, .second, lv p2, .second, lv p3, .second, lv p4, .second, iv p5, iv p6, rv b1, iv z1, iv z2, iv oi, iv oj, iv ch0, iv ch1, iv ch2, iv zB, iv 2, iv (((p6.toUInt32 >>> ((4 : Int32) &&& 31).toUInt32).toInt32) &&& (3 : Int32)), rv b17, iv z1, rv b490, lv p1, .second, lv p2, .second, .unset, .unset, .unset, .unset, .unset, .unset, .unset, .unset] [])) _
      refine Goes.by (fun _ kz => XS.iload X499.here hx rfl (hb hby at_286) rfl (XS.iconst X499.here hx rfl (hb hby at_288) (XS.icmpYes X499.here hx rfl (pc0 := 289) (pc' := 297) rfl (hb hby at_289) rfl (feq (by decide : ¬ ((2 : Int32) = (5 : Int32)))).2 (by decide) (by decide) kz))) ?_
      show Goes p e below (T499.setTop (mkF m 297 #[lv p1, .second, lv p2, .second, lv p3, .second, lv p4, .second, iv p5, iv p6, rv b1, iv z1, iv z2, iv oi, iv oj, iv ch0, iv ch1, iv ch2, iv zB, iv 2, iv (((p6.toUInt32 >>> ((4 : Int32) &&& 31).toUInt32).toInt32) &&& (3 : Int32)), rv b17, iv z1, rv b490, lv p1, .second, lv p2, .second, .unset, .unset, .unset, .unset, .unset, .unset, .unset, .unset] [])) _
      refine Goes.by (fun _ kz => XS.lload X499.here hx rfl (hb hby at_297) rfl (XS.lstore X499.here hx rfl (hb hby at_299) rfl rfl (XS.iload X499.here hx rfl (hb hby at_301) rfl kz))) ?_
      show Goes p e below (T499.setTop (mkF m 303 #[lv p1, .second, lv p2, .second, lv p3, .second, lv p4, .second, iv p5, iv p6, rv b1, iv z1, iv z2, iv oi, iv oj, iv ch0, iv ch1, iv ch2, iv zB, iv 2, iv (((p6.toUInt32 >>> ((4 : Int32) &&& 31).toUInt32).toInt32) &&& (3 : Int32)), rv b17, iv z1, rv b490, lv p1, .second, lv p2, .second, lv p3, .second, .unset, .unset, .unset, .unset, .unset, .unset] [(.int 2)])) _
      refine Goes.by (fun _ kz => XS.bipush X499.here hx rfl (hb hby at_303) (XS.icmpYes X499.here hx rfl (pc0 := 305) (pc' := 312) rfl (hb hby at_305) rfl (feq (by decide : ¬ ((2 : Int32) = (6 : Int32)))).2 (by decide) (by decide) (XS.lload X499.here hx rfl (hb hby at_312) rfl kz))) ?_
      show Goes p e below (T499.setTop (mkF m 314 #[lv p1, .second, lv p2, .second, lv p3, .second, lv p4, .second, iv p5, iv p6, rv b1, iv z1, iv z2, iv oi, iv oj, iv ch0, iv ch1, iv ch2, iv zB, iv 2, iv (((p6.toUInt32 >>> ((4 : Int32) &&& 31).toUInt32).toInt32) &&& (3 : Int32)), rv b17, iv z1, rv b490, lv p1, .second, lv p2, .second, lv p3, .second, .unset, .unset, .unset, .unset, .unset, .unset] [(.long p4)])) _
      refine Goes.by (fun _ kz => XS.lstore X499.here hx rfl (hb hby at_314) rfl rfl (XS.iload X499.here hx rfl (hb hby at_316) rfl (XS.bipush X499.here hx rfl (hb hby at_318) kz))) ?_
      show Goes p e below (T499.setTop (mkF m 320 #[lv p1, .second, lv p2, .second, lv p3, .second, lv p4, .second, iv p5, iv p6, rv b1, iv z1, iv z2, iv oi, iv oj, iv ch0, iv ch1, iv ch2, iv zB, iv 2, iv (((p6.toUInt32 >>> ((4 : Int32) &&& 31).toUInt32).toInt32) &&& (3 : Int32)), rv b17, iv z1, rv b490, lv p1, .second, lv p2, .second, lv p3, .second, lv p4, .second, .unset, .unset, .unset, .unset] [(.int 7), (.int 2)])) _
      refine Goes.by (fun _ kz => XS.icmpYes X499.here hx rfl (pc0 := 320) (pc' := 331) rfl (hb hby at_320) rfl (feq (by decide : ¬ ((2 : Int32) = (7 : Int32)))).2 (by decide) (by decide) (XS.aload X499.here hx rfl (hb hby at_331) rfl rfl (XS.iload X499.here hx rfl (hb hby at_333) rfl kz))) ?_
      show Goes p e below (T499.setTop (mkF m 335 #[lv p1, .second, lv p2, .second, lv p3, .second, lv p4, .second, iv p5, iv p6, rv b1, iv z1, iv z2, iv oi, iv oj, iv ch0, iv ch1, iv ch2, iv zB, iv 2, iv (((p6.toUInt32 >>> ((4 : Int32) &&& 31).toUInt32).toInt32) &&& (3 : Int32)), rv b17, iv z1, rv b490, lv p1, .second, lv p2, .second, lv p3, .second, lv p4, .second, .unset, .unset, .unset, .unset] [(.int oi), (.ref b1)])) _
      have f501 := ((f494.ext E490).other W499 ne490_b1)
      obtain ⟨cl500, Ar500, Cq500, Sz500, Nn500, Hh500, Gg500⟩ := id f501
      have hin500 : ¬ (oi < 0 ∨ cl500.slots.size ≤ (oi).toNatClampNeg) := inb_of Sz500 (own_i3 h_oi)
      have hat500 : cl500.slots[(oi).toNatClampNeg]? = some (.ref (own_o w oi)) := Has.at Hh500 hin500 (by rcases h_oi with h | h | h <;> rw [h] <;> rfl)
      refine Goes.by (fun _ kz => X499.aaload hx (j := oi) (v := (.ref (own_o w oi))) (by rw [e499]; exact Ar500.1) (State.isArrayOf_alike hZ.alike Ar500.2.1) rfl Ar500.2.2 hin500 hat500 (g := (mkF m 335 #[lv p1, .second, lv p2, .second, lv p3, .second, lv p4, .second, iv p5, iv p6, rv b1, iv z1, iv z2, iv oi, iv oj, iv ch0, iv ch1, iv ch2, iv zB, iv 2, iv (((p6.toUInt32 >>> ((4 : Int32) &&& 31).toUInt32).toInt32) &&& (3 : Int32)), rv b17, iv z1, rv b490, lv p1, .second, lv p2, .second, lv p3, .second, lv p4, .second, .unset, .unset, .unset, .unset] [(.int oi), (.ref b1)])) rfl rfl (hb hby at_335) _ (XS.astore X499.here hx rfl (hb hby at_336) rfl rfl rfl kz)) ?_
      have f503 := (Exa.wr W499 (f491.ext E490))
      have f504 := (Exa.wr W499 (f492.ext E490))
      have f505 := (Exa.wr W499 (f493.ext E490))
      have f506 := (Exa.wr W499 (f495.ext E490))
      have f507 := (Exa.wr W499 (f496.ext E490))
      have f508 := ((f497.ext E490).other W499 ne490_b26)
      have f509 := ((f498.ext E490).other W499 ne490_t44)
      obtain ⟨T502, h502, X502, e502, E502, A502, D502, -, st502⟩ := newO X499 hx hZ hown (wd hw 10 rfl) (wd hw 11 rfl) (wd hw 12 rfl) e499 (g := (mkF m 338 #[lv p1, .second, lv p2, .second, lv p3, .second, lv p4, .second, iv p5, iv p6, rv b1, iv z1, iv z2, iv oi, iv oj, iv ch0, iv ch1, iv ch2, iv zB, iv 2, iv (((p6.toUInt32 >>> ((4 : Int32) &&& 31).toUInt32).toInt32) &&& (3 : Int32)), rv b17, iv z1, rv b490, lv p1, .second, lv p2, .second, lv p3, .second, lv p4, .second, rv (own_o w oi), .unset, .unset, .unset] [])) rfl (hb hby at_338) (by decide) (by decide)
      obtain ⟨b502, g502⟩ : ∃ z, z = h499.size := ⟨_, rfl⟩
      rw [← g502] at A502 D502 st502
      have ne502__w_0_ : (w 0) ≠ b502 := Nat.ne_of_lt (Nat.lt_of_lt_of_le f503.lt (Nat.le_of_eq g502.symm))
      have ne502__w_1_ : (w 1) ≠ b502 := Nat.ne_of_lt (Nat.lt_of_lt_of_le f504.lt (Nat.le_of_eq g502.symm))
      have ne502__w_2_ : (w 2) ≠ b502 := Nat.ne_of_lt (Nat.lt_of_lt_of_le f505.lt (Nat.le_of_eq g502.symm))
      have ne502_b1 : b1 ≠ b502 := Nat.ne_of_lt (Nat.lt_of_lt_of_le f501.lt (Nat.le_of_eq g502.symm))
      have ne502_b17 : b17 ≠ b502 := Nat.ne_of_lt (Nat.lt_of_lt_of_le f506.lt (Nat.le_of_eq g502.symm))
      have ne502_b21 : b21 ≠ b502 := Nat.ne_of_lt (Nat.lt_of_lt_of_le f507.lt (Nat.le_of_eq g502.symm))
      have ne502_b26 : b26 ≠ b502 := Nat.ne_of_lt (Nat.lt_of_lt_of_le f508.lt (Nat.le_of_eq g502.symm))
      have ne502_t44 : t44 ≠ b502 := Nat.ne_of_lt (Nat.lt_of_lt_of_le f509.lt (Nat.le_of_eq g502.symm))
      have ne502_b490 : b490 ≠ b502 := Nat.ne_of_lt (Nat.lt_of_lt_of_le V499.lt (Nat.le_of_eq g502.symm))
      have g_b502 : n0 ≤ b502 := Nat.le_trans Z499 (Nat.le_of_eq g502.symm)
      have sz_b502 : h0.size ≤ b502 := Nat.le_trans K499.1 (Nat.le_of_eq g502.symm)
      have F502_visible : Fld Z h502 b502 "com/example/killdeer/killdeer/GadgetView" "visible" "Z" (.int 0) := D502 (Or.inr (wd hw 48 rfl)) (ty := .boolean) (by decide)
      have F502_appearance : Fld Z h502 b502 "com/example/killdeer/killdeer/GadgetView" "appearance" "Ljava/lang/String;" .null := D502 (Or.inr (wd hw 50 rfl)) (ty := (.object "java/lang/String")) (by decide)
      have F502_x : Fld Z h502 b502 "com/example/killdeer/killdeer/GadgetView" "x" "J" (.long 0) := D502 (Or.inr (wd hw 52 rfl)) (ty := .long) (by decide)
      have F502_y : Fld Z h502 b502 "com/example/killdeer/killdeer/GadgetView" "y" "J" (.long 0) := D502 (Or.inr (wd hw 54 rfl)) (ty := .long) (by decide)
      have F502_width : Fld Z h502 b502 "com/example/killdeer/killdeer/GadgetView" "width" "J" (.long 0) := D502 (Or.inr (wd hw 56 rfl)) (ty := .long) (by decide)
      have F502_height : Fld Z h502 b502 "com/example/killdeer/killdeer/GadgetView" "height" "J" (.long 0) := D502 (Or.inr (wd hw 58 rfl)) (ty := .long) (by decide)
      have F502_obscured : Fld Z h502 b502 "com/example/killdeer/killdeer/GadgetView" "obscured" "Lcom/example/killdeer/killdeer/GadgetView$Obscured;" .null := D502 (Or.inr (wd hw 60 rfl)) (ty := (.object "com/example/killdeer/killdeer/GadgetView$Obscured")) (by decide)
      have K502 : Keep h0 h502 [] := Keep.ext K499 E502
      have Z502 : n0 ≤ h502.size := Nat.le_trans Z499 E502.1
      refine Goes.by st502 ?_
      refine Goes.by (fun _ kz => XS.dup X502.here hx rfl (hb hby at_341) rfl rfl (XS.iload X502.here hx rfl (hb hby at_342) rfl kz)) ?_
      have f511 := (f503.ext E502)
      have f512 := (f504.ext E502)
      have f513 := (f505.ext E502)
      have f514 := (f501.ext E502)
      have f515 := (f506.ext E502)
      have f516 := (f507.ext E502)
      have f517 := (f508.ext E502)
      have f518 := (f509.ext E502)
      have f519 := (V499.ext E502)
      obtain ⟨T510, h510, X510, e510, E510, A510, D510, -, st510⟩ := newO X502 hx hZ hown (wd hw 13 rfl) (wd hw 14 rfl) (wd hw 15 rfl) e502 (g := (mkF m 344 #[lv p1, .second, lv p2, .second, lv p3, .second, lv p4, .second, iv p5, iv p6, rv b1, iv z1, iv z2, iv oi, iv oj, iv ch0, iv ch1, iv ch2, iv zB, iv 2, iv (((p6.toUInt32 >>> ((4 : Int32) &&& 31).toUInt32).toInt32) &&& (3 : Int32)), rv b17, iv z1, rv b490, lv p1, .second, lv p2, .second, lv p3, .second, lv p4, .second, rv (own_o w oi), .unset, .unset, .unset] [(.int z1), (.ref b502), (.ref b502)])) rfl (hb hby at_344) (by decide) (by decide)
      obtain ⟨b510, g510⟩ : ∃ z, z = h502.size := ⟨_, rfl⟩
      rw [← g510] at A510 D510 st510
      have ne510__w_0_ : (w 0) ≠ b510 := Nat.ne_of_lt (Nat.lt_of_lt_of_le f511.lt (Nat.le_of_eq g510.symm))
      have ne510__w_1_ : (w 1) ≠ b510 := Nat.ne_of_lt (Nat.lt_of_lt_of_le f512.lt (Nat.le_of_eq g510.symm))
      have ne510__w_2_ : (w 2) ≠ b510 := Nat.ne_of_lt (Nat.lt_of_lt_of_le f513.lt (Nat.le_of_eq g510.symm))
      have ne510_b1 : b1 ≠ b510 := Nat.ne_of_lt (Nat.lt_of_lt_of_le f514.lt (Nat.le_of_eq g510.symm))
      have ne510_b17 : b17 ≠ b510 := Nat.ne_of_lt (Nat.lt_of_lt_of_le f515.lt (Nat.le_of_eq g510.symm))
      have ne510_b21 : b21 ≠ b510 := Nat.ne_of_lt (Nat.lt_of_lt_of_le f516.lt (Nat.le_of_eq g510.symm))
      have ne510_b26 : b26 ≠ b510 := Nat.ne_of_lt (Nat.lt_of_lt_of_le f517.lt (Nat.le_of_eq g510.symm))
      have ne510_t44 : t44 ≠ b510 := Nat.ne_of_lt (Nat.lt_of_lt_of_le f518.lt (Nat.le_of_eq g510.symm))
      have ne510_b490 : b490 ≠ b510 := Nat.ne_of_lt (Nat.lt_of_lt_of_le f519.lt (Nat.le_of_eq g510.symm))
      have ne510_b502 : b502 ≠ b510 := Nat.ne_of_lt (Nat.lt_of_lt_of_le A502.lt (Nat.le_of_eq g510.symm))
      have g_b510 : n0 ≤ b510 := Nat.le_trans Z502 (Nat.le_of_eq g510.symm)
      have sz_b510 : h0.size ≤ b510 := Nat.le_trans K502.1 (Nat.le_of_eq g510.symm)
      have F510_coder : Fld Z h510 b510 "java/lang/String" "coder" "B" (.int 0) := D510 (Or.inr (wd hw 40 rfl)) (ty := .byte) (by decide)
      have F510_value : Fld Z h510 b510 "java/lang/String" "value" "[B" .null := D510 (Or.inr (wd hw 42 rfl)) (ty := (.array .byte)) (by decide)
      have K510 : Keep h0 h510 [] := Keep.ext K502 E510
      have Z510 : n0 ≤ h510.size := Nat.le_trans Z502 E510.1
      refine Goes.by st510 ?_
      refine Goes.by (fun _ kz => XS.dup X510.here hx rfl (hb hby at_347) rfl rfl (XS.aload X510.here hx rfl (hb hby at_348) rfl rfl kz)) ?_
      show Goes p e below (T510.setTop (mkF m 350 #[lv p1, .second, lv p2, .second, lv p3, .second, lv p4, .second, iv p5, iv p6, rv b1, iv z1, iv z2, iv oi, iv oj, iv ch0, iv ch1, iv ch2, iv zB, iv 2, iv (((p6.toUInt32 >>> ((4 : Int32) &&& 31).toUInt32).toInt32) &&& (3 : Int32)), rv b17, iv z1, rv b490, lv p1, .second, lv p2, .second, lv p3, .second, lv p4, .second, rv (own_o w oi), .unset, .unset, .unset] [(.ref b490), (.ref b510), (.ref b510), (.int z1), (.ref b502), (.ref b502)])) _
      have f520 := (f519.ext E510)
      have f521 := (((Sta.wr W499 ((own_staKeep (own_staKeep f37 Kq44 (allS (own_nsE f34) all0)) Kq81 (allS (own_nsE f73) all0)).ext E490)).ext E502).ext E510)
      have f522 := (f511.ext E510)
      have f523 := (f512.ext E510)
      have f524 := (f513.ext E510)
      have f525 := (f514.ext E510)
      have f526 := (f515.ext E510)
      have f527 := (f516.ext E510)
      have f528 := (f517.ext E510)
      have f529 := (f518.ext E510)
      have f530 := (A502.ext E510)
      have hp531 : ∀ c ∈ ([ch0] : List Int32), ¬ c < 0 ∧ ¬ (255 : Int32) < c := by
        intro c hc; simp only [List.mem_cons, List.not_mem_nil, or_false] at hc
        rw [hc]; exact hb_ch0
      have hcd531 : StrChars.Road.CodA ([ch0] : List Int32) 0 (1 : Int32) ((([ch0] : List Int32).map (fun c => c.toInt8.toInt32)).map Value.int) := StrChars.Road.codOf (n := 1) rfl (fun c hc => (hp531 c hc).2)
      have hbd531 := own_up _ hp531
      obtain ⟨_, _, ⟨T532, L532, k532, n532⟩, -, X532, ⟨Lc532, hQ532, l532, y532, z532⟩, st532⟩ := X510.specialBack hx (y := (⟨"java/lang/String", "<init>", "([C)V"⟩ : MethodName)) rfl hown (mvT hZ (wd hw 17 rfl)) (mvT hZ (wd hw 18 rfl)) (mvT hZ (wd hw 19 rfl)) (by decide) (StrChars.Road.backV (W := 4) hZ hws (kI := 4) (wd hw 14 rfl) (cs := ([ch0] : List Int32)) (bs := (([ch0] : List Int32).map (fun c => c.toInt8.toInt32))) (n := 1) g_b510 Z510 A510 F510_value F510_coder f520 f521 hzc rfl rfl (by decide) (by decide) hp531 rfl (by decide) (by decide)) (g := (mkF m 350 #[lv p1, .second, lv p2, .second, lv p3, .second, lv p4, .second, iv p5, iv p6, rv b1, iv z1, iv z2, iv oi, iv oj, iv ch0, iv ch1, iv ch2, iv zB, iv 2, iv (((p6.toUInt32 >>> ((4 : Int32) &&& 31).toUInt32).toInt32) &&& (3 : Int32)), rv b17, iv z1, rv b490, lv p1, .second, lv p2, .second, lv p3, .second, lv p4, .second, rv (own_o w oi), .unset, .unset, .unset] [(.ref b490), (.ref b510), (.ref b510), (.int z1), (.ref b502), (.ref b502)])) rfl (by rw [hml]; rfl) (Steps.refl _) (a := b510) (argsL := [(.ref b490)]) (rest := [(.ref b510), (.int z1), (.ref b502), (.ref b502)]) (lenOf pd0 rfl) rfl (by show 2 * 0 + _ ≤ _; exact Nat.le_of_eq rfl) (hb hby at_350) (fun _ _ => ⟨rfl, e510, (by decide : 8 + 1 ≤ _), (by decide : 30 + 1 ≤ _)⟩)
      dsimp only [Pt.U, Pt.locs, Pt.cells, Pt.slots] at X532 l532 y532 z532 st532 hQ532
      subst l532 y532 z532
      obtain ⟨rfl, Nq532, Kq532, gE532, gC532, t532, kb532, u1_532, u2_532, u3_532, gV532, gA532⟩ := hQ532
      have K532 : Keep h0 T532.heap [] := Keep.trans K510 Kq532 (allS (Or.inr sz_b510) all0)
      have Z532 : n0 ≤ T532.heap.size := Nat.le_trans Z510 Kq532.1
      have net532__w_0_ : (w 0) ≠ t532 := Nat.ne_of_lt (Nat.lt_of_lt_of_le f522.lt u2_532)
      have net532__w_1_ : (w 1) ≠ t532 := Nat.ne_of_lt (Nat.lt_of_lt_of_le f523.lt u2_532)
      have net532__w_2_ : (w 2) ≠ t532 := Nat.ne_of_lt (Nat.lt_of_lt_of_le f524.lt u2_532)
      have net532_b1 : b1 ≠ t532 := Nat.ne_of_lt (Nat.lt_of_lt_of_le f525.lt u2_532)
      have net532_b17 : b17 ≠ t532 := Nat.ne_of_lt (Nat.lt_of_lt_of_le f526.lt u2_532)
      have net532_b21 : b21 ≠ t532 := Nat.ne_of_lt (Nat.lt_of_lt_of_le f527.lt u2_532)
      have net532_b26 : b26 ≠ t532 := Nat.ne_of_lt (Nat.lt_of_lt_of_le f528.lt u2_532)
      have net532_t44 : t44 ≠ t532 := Nat.ne_of_lt (Nat.lt_of_lt_of_le f529.lt u2_532)
      have net532_b490 : b490 ≠ t532 := Nat.ne_of_lt (Nat.lt_of_lt_of_le f520.lt u2_532)
      have net532_b502 : b502 ≠ t532 := Nat.ne_of_lt (Nat.lt_of_lt_of_le f530.lt u2_532)
      have net532_b510 : b510 ≠ t532 := Nat.ne_of_lt (Nat.lt_of_lt_of_le A510.lt u2_532)
      have g_t532 : n0 ≤ t532 := Nat.le_trans Z510 u2_532
      have sz_t532 : h0.size ≤ t532 := Nat.le_trans K510.1 u2_532
      have N532 := Fr.app N499 Nq532
      refine Goes.tr st532 ?_
      refine Goes.by (fun _ kz => XS.lload X532.here hx rfl (hb hby at_353) rfl (XS.lload X532.here hx rfl (hb hby at_355) rfl (XS.lload X532.here hx rfl (hb hby at_357) rfl kz))) ?_
      show Goes p e below (T532.setTop (mkF m 359 #[lv p1, .second, lv p2, .second, lv p3, .second, lv p4, .second, iv p5, iv p6, rv b1, iv z1, iv z2, iv oi, iv oj, iv ch0, iv ch1, iv ch2, iv zB, iv 2, iv (((p6.toUInt32 >>> ((4 : Int32) &&& 31).toUInt32).toInt32) &&& (3 : Int32)), rv b17, iv z1, rv b490, lv p1, .second, lv p2, .second, lv p3, .second, lv p4, .second, rv (own_o w oi), .unset, .unset, .unset] [(.long p3), (.long p2), (.long p1), (.ref b510), (.int z1), (.ref b502), (.ref b502)])) _
      refine Goes.by (fun _ kz => XS.lload X532.here hx rfl (hb hby at_359) rfl (XS.aload X532.here hx rfl (hb hby at_361) rfl rfl kz)) ?_
      have f533 := (f530.keep Kq532)
      have f534 := ((F502_visible.ext E510).keep Kq532 (ninS ne510_b502 nin0))
      have f535 := ((F502_appearance.ext E510).keep Kq532 (ninS ne510_b502 nin0))
      have f536 := ((F502_x.ext E510).keep Kq532 (ninS ne510_b502 nin0))
      have f537 := ((F502_y.ext E510).keep Kq532 (ninS ne510_b502 nin0))
      have f538 := ((F502_width.ext E510).keep Kq532 (ninS ne510_b502 nin0))
      have f539 := ((F502_height.ext E510).keep Kq532 (ninS ne510_b502 nin0))
      have f540 := ((F502_obscured.ext E510).keep Kq532 (ninS ne510_b502 nin0))
      obtain ⟨_, _, ⟨T541, L541, k541, n541⟩, -, X541, ⟨Lc541, hQ541, l541, y541, z541⟩, st541⟩ := X532.specialBack hx (y := (⟨"com/example/killdeer/killdeer/GadgetView", "<init>", "(ZLjava/lang/String;JJJJLcom/example/killdeer/killdeer/GadgetView$Obscured;)V"⟩ : MethodName)) rfl hown (mvT hZ (wd hw 43 rfl)) (mvT hZ (wd hw 44 rfl)) (mvT hZ (wd hw 45 rfl)) (by decide) (backOf (W := 1) (r7_0 l Z a0 hw [] T532.heap n0 Z532 b502 z1 b510 p1 p2 p3 p4 (own_o w oi) f533 f534 f535 f536 f537 f538 f539 f540 g_b502) hZ (wd hw 45 rfl) (wd hw 12 rfl) (by decide) (by decide)) (g := (mkF m 363 #[lv p1, .second, lv p2, .second, lv p3, .second, lv p4, .second, iv p5, iv p6, rv b1, iv z1, iv z2, iv oi, iv oj, iv ch0, iv ch1, iv ch2, iv zB, iv 2, iv (((p6.toUInt32 >>> ((4 : Int32) &&& 31).toUInt32).toInt32) &&& (3 : Int32)), rv b17, iv z1, rv b490, lv p1, .second, lv p2, .second, lv p3, .second, lv p4, .second, rv (own_o w oi), .unset, .unset, .unset] [(.ref (own_o w oi)), (.long p4), (.long p3), (.long p2), (.long p1), (.ref b510), (.int z1), (.ref b502), (.ref b502)])) rfl (by rw [hml]; rfl) (Steps.refl _) (a := b502) (argsL := [(.int z1), (.ref b510), (.long p1), (.long p2), (.long p3), (.long p4), (.ref (own_o w oi))]) (rest := [(.ref b502)]) (lenOf pd1 rfl) rfl (by show 2 * 0 + _ ≤ _; exact Nat.le_of_eq rfl) (hb hby at_363) (fun _ _ => ⟨rfl, rfl, (by decide : 9 + 0 ≤ _), (by decide : 31 + 0 ≤ _)⟩)
      dsimp only [Pt.U, Pt.locs, Pt.cells, Pt.slots] at X541 l541 y541 z541 st541 hQ541
      subst l541 y541 z541
      obtain ⟨rfl, Nq541, Kq541, fq541_0, fq541_1, fq541_2, fq541_3, fq541_4, fq541_5, fq541_6⟩ := hQ541
      have K541 : Keep h0 T541.heap [] := Keep.trans K532 Kq541 (allS (Or.inr sz_b502) all0)
      have Z541 : n0 ≤ T541.heap.size := Nat.le_trans Z532 Kq541.1
      have N541 := Fr.app N532 Nq541
      refine Goes.tr st541 ?_
      refine Goes.by (fun _ kz => XS.astore X541.here hx rfl (hb hby at_366) rfl rfl rfl (XS.iload X541.here hx rfl (hb hby at_368) rfl (XS.ifYes X541.here hx rfl (pc0 := 370) (pc' := 379) rfl (hb hby at_370) rfl ((if0 _ _).trans (feq (by decide : ¬ ((2 : Int32) = (0 : Int32)))).2) (by decide) (by decide) kz))) ?_
      show Goes p e below (T541.setTop (mkF m 379 #[lv p1, .second, lv p2, .second, lv p3, .second, lv p4, .second, iv p5, iv p6, rv b1, iv z1, iv z2, iv oi, iv oj, iv ch0, iv ch1, iv ch2, iv zB, iv 2, iv (((p6.toUInt32 >>> ((4 : Int32) &&& 31).toUInt32).toInt32) &&& (3 : Int32)), rv b17, iv z1, rv b490, lv p1, .second, lv p2, .second, lv p3, .second, lv p4, .second, rv (own_o w oi), rv b502, .unset, .unset] [])) _
      refine Goes.by (fun _ kz => XS.iload X541.here hx rfl (hb hby at_379) rfl (XS.iconst X541.here hx rfl (hb hby at_381) (XS.icmpYes X541.here hx rfl (pc0 := 382) (pc' := 402) rfl (hb hby at_382) rfl (feq (by decide : ¬ ((2 : Int32) = (1 : Int32)))).2 (by decide) (by decide) kz))) ?_
      show Goes p e below (T541.setTop (mkF m 402 #[lv p1, .second, lv p2, .second, lv p3, .second, lv p4, .second, iv p5, iv p6, rv b1, iv z1, iv z2, iv oi, iv oj, iv ch0, iv ch1, iv ch2, iv zB, iv 2, iv (((p6.toUInt32 >>> ((4 : Int32) &&& 31).toUInt32).toInt32) &&& (3 : Int32)), rv b17, iv z1, rv b490, lv p1, .second, lv p2, .second, lv p3, .second, lv p4, .second, rv (own_o w oi), rv b502, .unset, .unset] [])) _
      refine Goes.by (fun _ kz => XS.iload X541.here hx rfl (hb hby at_402) rfl (XS.iconst X541.here hx rfl (hb hby at_404) (XS.icmpNo X541.here hx rfl (hb hby at_405) rfl (teq (by decide : (2 : Int32) = (2 : Int32))).2 kz))) ?_
      show Goes p e below (T541.setTop (mkF m 408 #[lv p1, .second, lv p2, .second, lv p3, .second, lv p4, .second, iv p5, iv p6, rv b1, iv z1, iv z2, iv oi, iv oj, iv ch0, iv ch1, iv ch2, iv zB, iv 2, iv (((p6.toUInt32 >>> ((4 : Int32) &&& 31).toUInt32).toInt32) &&& (3 : Int32)), rv b17, iv z1, rv b490, lv p1, .second, lv p2, .second, lv p3, .second, lv p4, .second, rv (own_o w oi), rv b502, .unset, .unset] [])) _
      refine Goes.by (fun _ kz => XS.iload X541.here hx rfl (hb hby at_408) rfl (XS.ifYes X541.here hx rfl (pc0 := 410) (pc' := 424) rfl (hb hby at_410) rfl ((if0 _ _).trans (feq hc360).2) (by decide) (by decide) (XS.iconst X541.here hx rfl (hb hby at_424) kz))) ?_
      show Goes p e below (T541.setTop (mkF m 425 #[lv p1, .second, lv p2, .second, lv p3, .second, lv p4, .second, iv p5, iv p6, rv b1, iv z1, iv z2, iv oi, iv oj, iv ch0, iv ch1, iv ch2, iv zB, iv 2, iv (((p6.toUInt32 >>> ((4 : Int32) &&& 31).toUInt32).toInt32) &&& (3 : Int32)), rv b17, iv z1, rv b490, lv p1, .second, lv p2, .second, lv p3, .second, lv p4, .second, rv (own_o w oi), rv b502, .unset, .unset] [(.int 0)])) _
      refine Goes.by (fun _ kz => XS.istore X541.here hx rfl (hb hby at_425) rfl rfl (XS.goto X541.here hx rfl (pc0 := 427) (pc' := 538) rfl (hb hby at_427) (by decide) (by decide) kz)) ?_
      show Goes p e below (T541.setTop (mkF m 538 #[lv p1, .second, lv p2, .second, lv p3, .second, lv p4, .second, iv p5, iv p6, rv b1, iv z1, iv z2, iv oi, iv oj, iv ch0, iv ch1, iv ch2, iv zB, iv 2, iv (((p6.toUInt32 >>> ((4 : Int32) &&& 31).toUInt32).toInt32) &&& (3 : Int32)), rv b17, iv z1, rv b490, lv p1, .second, lv p2, .second, lv p3, .second, lv p4, .second, rv (own_o w oi), rv b502, iv 0, .unset] [])) _
      have hsot := own_k (((p6.toUInt32 >>> ((4 : Int32) &&& 31).toUInt32).toInt32))
      obtain ⟨ot, hot⟩ : ∃ z, z = (((p6.toUInt32 >>> ((4 : Int32) &&& 31).toUInt32).toInt32) &&& (3 : Int32)) := ⟨_, rfl⟩
      rw [← hot] at hsot ⊢
      rcases hsot with rfl | rfl | rfl | rfl
      · show Goes p e below (T541.setTop (mkF m 538 #[lv p1, .second, lv p2, .second, lv p3, .second, lv p4, .second, iv p5, iv p6, rv b1, iv z1, iv z2, iv oi, iv oj, iv ch0, iv ch1, iv ch2, iv zB, iv 2, iv 0, rv b17, iv z1, rv b490, lv p1, .second, lv p2, .second, lv p3, .second, lv p4, .second, rv (own_o w oi), rv b502, iv 0, .unset] [])) _
        refine Goes.by (fun _ kz => XS.iload X541.here hx rfl (hb hby at_538) rfl (XS.iconst X541.here hx rfl (hb hby at_540) (XS.icmpYes X541.here hx rfl (pc0 := 541) (pc' := 552) rfl (hb hby at_541) rfl (feq (by decide : ¬ ((0 : Int32) = (1 : Int32)))).2 (by decide) (by decide) kz))) ?_
        show Goes p e below (T541.setTop (mkF m 552 #[lv p1, .second, lv p2, .second, lv p3, .second, lv p4, .second, iv p5, iv p6, rv b1, iv z1, iv z2, iv oi, iv oj, iv ch0, iv ch1, iv ch2, iv zB, iv 2, iv 0, rv b17, iv z1, rv b490, lv p1, .second, lv p2, .second, lv p3, .second, lv p4, .second, rv (own_o w oi), rv b502, iv 0, .unset] [])) _
        refine Goes.by (fun _ kz => XS.iload X541.here hx rfl (hb hby at_552) rfl (XS.iconst X541.here hx rfl (hb hby at_554) (XS.icmpYes X541.here hx rfl (pc0 := 555) (pc' := 573) rfl (hb hby at_555) rfl (feq (by decide : ¬ ((0 : Int32) = (2 : Int32)))).2 (by decide) (by decide) kz))) ?_
        show Goes p e below (T541.setTop (mkF m 573 #[lv p1, .second, lv p2, .second, lv p3, .second, lv p4, .second, iv p5, iv p6, rv b1, iv z1, iv z2, iv oi, iv oj, iv ch0, iv ch1, iv ch2, iv zB, iv 2, iv 0, rv b17, iv z1, rv b490, lv p1, .second, lv p2, .second, lv p3, .second, lv p4, .second, rv (own_o w oi), rv b502, iv 0, .unset] [])) _
        refine Goes.by (fun _ kz => XS.iload X541.here hx rfl (hb hby at_573) rfl (XS.iconst X541.here hx rfl (hb hby at_575) (XS.icmpYes X541.here hx rfl (pc0 := 576) (pc' := 612) rfl (hb hby at_576) rfl (feq (by decide : ¬ ((0 : Int32) = (3 : Int32)))).2 (by decide) (by decide) kz))) ?_
        show Goes p e below (T541.setTop (mkF m 612 #[lv p1, .second, lv p2, .second, lv p3, .second, lv p4, .second, iv p5, iv p6, rv b1, iv z1, iv z2, iv oi, iv oj, iv ch0, iv ch1, iv ch2, iv zB, iv 2, iv 0, rv b17, iv z1, rv b490, lv p1, .second, lv p2, .second, lv p3, .second, lv p4, .second, rv (own_o w oi), rv b502, iv 0, .unset] [])) _
        refine Goes.by (fun _ kz => XS.aload X541.here hx rfl (hb hby at_612) rfl rfl (XS.aload X541.here hx rfl (hb hby at_614) rfl rfl kz)) ?_
        have f542 := ((f526.keep Kq532).keep Kq541)
        have f543 := (((((Fld.other W499 (fq81_0.ext E490) (Or.inl ne490_b17)).ext E502).ext E510).keep Kq532 (ninS ne510_b17 nin0)).keep Kq541 (ninS ne502_b17 nin0))
        have f544 := (((((Fld.other W499 (fq81_1.ext E490) (Or.inl ne490_b17)).ext E502).ext E510).keep Kq532 (ninS ne510_b17 nin0)).keep Kq541 (ninS ne502_b17 nin0))
        have f545 := (((((Fld.other W499 (fq81_2.ext E490) (Or.inl ne490_b17)).ext E502).ext E510).keep Kq532 (ninS ne510_b17 nin0)).keep Kq541 (ninS ne502_b17 nin0))
        have f546 := (((((Fld.other W499 (fq81_3.ext E490) (Or.inl ne490_b17)).ext E502).ext E510).keep Kq532 (ninS ne510_b17 nin0)).keep Kq541 (ninS ne502_b17 nin0))
        have f547 := (((((Fld.other W499 (fq81_4.ext E490) (Or.inl ne490_b17)).ext E502).ext E510).keep Kq532 (ninS ne510_b17 nin0)).keep Kq541 (ninS ne502_b17 nin0))
        have f548 := (((((Fld.other W499 (fq81_5.ext E490) (Or.inl ne490_b17)).ext E502).ext E510).keep Kq532 (ninS ne510_b17 nin0)).keep Kq541 (ninS ne502_b17 nin0))
        have f549 := (((((Fld.other W499 (fq81_6.ext E490) (Or.inl ne490_b17)).ext E502).ext E510).keep Kq532 (ninS ne510_b17 nin0)).keep Kq541 (ninS ne502_b17 nin0))
        have f550 := ((f527.keep Kq532).keep Kq541)
        have f551 := (((((Fld.other W499 ((gV44.keep Kq81 (ninS (Ne.symm ne21_b17) nin0)).ext E490) (Or.inl ne490_b21)).ext E502).ext E510).keep Kq532 (ninS ne510_b21 nin0)).keep Kq541 (ninS ne502_b21 nin0))
        have f552 := (((((Fld.other W499 ((gC44.keep Kq81 (ninS (Ne.symm ne21_b17) nin0)).ext E490) (Or.inl ne490_b21)).ext E502).ext E510).keep Kq532 (ninS ne510_b21 nin0)).keep Kq541 (ninS ne502_b21 nin0))
        have f553 := ((f529.keep Kq532 (ninS ne510_t44 nin0)).keep Kq541 (ninS ne502_t44 nin0))
        have f554 := (f533.keep Kq541)
        have f555 := ((A510.keep Kq532).keep Kq541)
        have f556 := (gV532.keep Kq541 (ninS (Ne.symm ne510_b502) nin0))
        have f557 := (gC532.keep Kq541 (ninS (Ne.symm ne510_b502) nin0))
        have f558 := (gA532.keep Kq541 (ninS (Ne.symm net532_b502) nin0))
        have f559 := (own_staKeep (own_staKeep f521 Kq532 (allS (own_nsE A510) all0)) Kq541 (allS (own_nsE f533) all0))
        obtain ⟨cq560, kq560, q560a, q560b, q560c⟩ := isOf hZ rfl f542
        obtain ⟨_, _, ⟨T560, L560, k560, n560⟩, -, X560, ⟨Lc560, hQ560, l560, y560, z560⟩, st560⟩ := X541.virtualBack hx (y := (⟨"com/example/killdeer/killdeer/GadgetView", "equals", "(Ljava/lang/Object;)Z"⟩ : MethodName)) (z := (⟨"com/example/killdeer/killdeer/GadgetView", "equals", "(Ljava/lang/Object;)Z"⟩ : MethodName)) hown (mvT hZ (wd hw 61 rfl)) (mvT hZ (wd hw 62 rfl)) (notFace_of_selects (args := #[]) (mvT hZ (wd hw 64 rfl))) (mvT hZ (wd hw 64 rfl)) (mvT hZ (wd hw 63 rfl)) (by decide) (backOf (W := 0) (r8_0 l Z a0 hw [] T541.heap n0 Z541 b17 b502 (nar .boolean z1) (nar .boolean z1) b21 b510 t44 t532 kb44 kb532 ([ch0, ch1] : List Int32) ([ch0] : List Int32) (2 : Int32) (1 : Int32) ((([ch0, ch1] : List Int32).map (fun c => c.toInt8.toInt32)).map Value.int) ((([ch0] : List Int32).map (fun c => c.toInt8.toInt32)).map Value.int) p1 p1 p2 p2 p3 p3 p4 p4 (own_o w oi) (own_o w oi) zc f542 f543 f544 f545 f546 f547 f548 f549 f550 f551 f552 f553 hcd43 hbd43 (by simp) f554 fq541_0 fq541_1 fq541_2 fq541_3 fq541_4 fq541_5 fq541_6 f555 f556 f557 f558 hcd531 hbd531 (by simp) f559 hzc ne502_b17) hZ (wd hw 65 rfl) (wd hw 12 rfl) (by decide) (by decide)) q560a q560c (g := (mkF m 616 #[lv p1, .second, lv p2, .second, lv p3, .second, lv p4, .second, iv p5, iv p6, rv b1, iv z1, iv z2, iv oi, iv oj, iv ch0, iv ch1, iv ch2, iv zB, iv 2, iv 0, rv b17, iv z1, rv b490, lv p1, .second, lv p2, .second, lv p3, .second, lv p4, .second, rv (own_o w oi), rv b502, iv 0, .unset] [(.ref b502), (.ref b17)])) rfl (by rw [hml]; rfl) (Steps.refl _) (argsL := [(.ref b502)]) (rest := []) (lenOf pd2 rfl) rfl (by show 2 * 0 + _ ≤ _; exact Nat.le_of_eq rfl) (hb hby at_616) (fun _ _ => ⟨rfl, rfl, (by decide : 9 + 0 ≤ _), (by decide : 31 + 0 ≤ _)⟩)
        dsimp only [Pt.U, Pt.locs, Pt.cells, Pt.slots] at X560 l560 y560 z560 st560 hQ560
        subst l560 y560 z560
        rcases hQ560 with hQ560 | hQ560
        · obtain ⟨rfl, Nq560, e560, hS560⟩ := hQ560
          have N560 := Fr.app N541 Nq560
          refine Goes.tr st560 ?_
          refine Goes.by (fun _ kz => XS.iload X560.here hx rfl (hb hby at_619) rfl (XS.icmpYes X560.here hx rfl (pc0 := 621) (pc' := 640) rfl (hb hby at_621) rfl (feq (by decide : ¬ ((1 : Int32) = (0 : Int32)))).2 (by decide) (by decide) (XS.iconst X560.here hx rfl (hb hby at_640) kz))) ?_
          show Goes p e below (T560.setTop (mkF m 641 #[lv p1, .second, lv p2, .second, lv p3, .second, lv p4, .second, iv p5, iv p6, rv b1, iv z1, iv z2, iv oi, iv oj, iv ch0, iv ch1, iv ch2, iv zB, iv 2, iv 0, rv b17, iv z1, rv b490, lv p1, .second, lv p2, .second, lv p3, .second, lv p4, .second, rv (own_o w oi), rv b502, iv 0, .unset] [(.int 0)])) _
          exfalso
          revert hS560
          simp [own_same, own_nb hz1, own_nb hz2, own_oinj pne01 pne02 pne12 h_oi h_oj, own_oinj pne01 pne02 pne12 h_oj h_oi]
        · obtain ⟨rfl, Nq560, e560, hS560⟩ := hQ560
          have N560 := Fr.app N541 Nq560
          refine Goes.tr st560 ?_
          refine Goes.by (fun _ kz => XS.iload X560.here hx rfl (hb hby at_619) rfl (XS.icmpNo X560.here hx rfl (hb hby at_621) rfl (teq (by decide : (0 : Int32) = (0 : Int32))).2 (XS.aload X560.here hx rfl (hb hby at_624) rfl rfl kz))) ?_
          show Goes p e below (T560.setTop (mkF m 626 #[lv p1, .second, lv p2, .second, lv p3, .second, lv p4, .second, iv p5, iv p6, rv b1, iv z1, iv z2, iv oi, iv oj, iv ch0, iv ch1, iv ch2, iv zB, iv 2, iv 0, rv b17, iv z1, rv b490, lv p1, .second, lv p2, .second, lv p3, .second, lv p4, .second, rv (own_o w oi), rv b502, iv 0, .unset] [(.ref b502)])) _
          refine Goes.by (fun _ kz => XS.aload X560.here hx rfl (hb hby at_626) rfl rfl kz) ?_
          obtain ⟨cq561, kq561, q561a, q561b, q561c⟩ := isOf hZ e560 f554
          obtain ⟨_, _, ⟨T561, L561, k561, n561⟩, -, X561, ⟨Lc561, hQ561, l561, y561, z561⟩, st561⟩ := X560.virtualBack hx (y := (⟨"com/example/killdeer/killdeer/GadgetView", "equals", "(Ljava/lang/Object;)Z"⟩ : MethodName)) (z := (⟨"com/example/killdeer/killdeer/GadgetView", "equals", "(Ljava/lang/Object;)Z"⟩ : MethodName)) hown (mvT hZ (wd hw 61 rfl)) (mvT hZ (wd hw 62 rfl)) (notFace_of_selects (args := #[]) (mvT hZ (wd hw 64 rfl))) (mvT hZ (wd hw 64 rfl)) (mvT hZ (wd hw 63 rfl)) (by decide) (backOf (W := 0) (r8_0 l Z a0 hw [] T541.heap n0 Z541 b502 b17 (nar .boolean z1) (nar .boolean z1) b510 b21 t532 t44 kb532 kb44 ([ch0] : List Int32) ([ch0, ch1] : List Int32) (1 : Int32) (2 : Int32) ((([ch0] : List Int32).map (fun c => c.toInt8.toInt32)).map Value.int) ((([ch0, ch1] : List Int32).map (fun c => c.toInt8.toInt32)).map Value.int) p1 p1 p2 p2 p3 p3 p4 p4 (own_o w oi) (own_o w oi) zc f554 fq541_0 fq541_1 fq541_2 fq541_3 fq541_4 fq541_5 fq541_6 f555 f556 f557 f558 hcd531 hbd531 (by simp) f542 f543 f544 f545 f546 f547 f548 f549 f550 f551 f552 f553 hcd43 hbd43 (by simp) f559 hzc (Ne.symm ne502_b17)) hZ (wd hw 65 rfl) (wd hw 12 rfl) (by decide) (by decide)) q561a q561c (g := (mkF m 628 #[lv p1, .second, lv p2, .second, lv p3, .second, lv p4, .second, iv p5, iv p6, rv b1, iv z1, iv z2, iv oi, iv oj, iv ch0, iv ch1, iv ch2, iv zB, iv 2, iv 0, rv b17, iv z1, rv b490, lv p1, .second, lv p2, .second, lv p3, .second, lv p4, .second, rv (own_o w oi), rv b502, iv 0, .unset] [(.ref b17), (.ref b502)])) rfl (by rw [hml]; rfl) (Steps.refl _) (argsL := [(.ref b17)]) (rest := []) (lenOf pd2 rfl) rfl (by show 2 * 0 + _ ≤ _; exact Nat.le_of_eq rfl) (hb hby at_628) (fun _ _ => ⟨rfl, e560, (by decide : 9 + 0 ≤ _), (by decide : 31 + 0 ≤ _)⟩)
          dsimp only [Pt.U, Pt.locs, Pt.cells, Pt.slots] at X561 l561 y561 z561 st561 hQ561
          subst l561 y561 z561
          rcases hQ561 with hQ561 | hQ561
          · obtain ⟨rfl, Nq561, e561, hS561⟩ := hQ561
            have N561 := Fr.app N560 Nq561
            refine Goes.tr st561 ?_
            refine Goes.by (fun _ kz => XS.iload X561.here hx rfl (hb hby at_631) rfl (XS.icmpYes X561.here hx rfl (pc0 := 633) (pc' := 640) rfl (hb hby at_633) rfl (feq (by decide : ¬ ((1 : Int32) = (0 : Int32)))).2 (by decide) (by decide) (XS.iconst X561.here hx rfl (hb hby at_640) kz))) ?_
            show Goes p e below (T561.setTop (mkF m 641 #[lv p1, .second, lv p2, .second, lv p3, .second, lv p4, .second, iv p5, iv p6, rv b1, iv z1, iv z2, iv oi, iv oj, iv ch0, iv ch1, iv ch2, iv zB, iv 2, iv 0, rv b17, iv z1, rv b490, lv p1, .second, lv p2, .second, lv p3, .second, lv p4, .second, rv (own_o w oi), rv b502, iv 0, .unset] [(.int 0)])) _
            exfalso
            revert hS561
            simp [own_same, own_nb hz1, own_nb hz2, own_oinj pne01 pne02 pne12 h_oi h_oj, own_oinj pne01 pne02 pne12 h_oj h_oi]
          · obtain ⟨rfl, Nq561, e561, hS561⟩ := hQ561
            have N561 := Fr.app N560 Nq561
            refine Goes.tr st561 ?_
            refine Goes.by (fun _ kz => XS.iload X561.here hx rfl (hb hby at_631) rfl (XS.icmpNo X561.here hx rfl (hb hby at_633) rfl (teq (by decide : (0 : Int32) = (0 : Int32))).2 (XS.iconst X561.here hx rfl (hb hby at_636) kz))) ?_
            show Goes p e below (T561.setTop (mkF m 637 #[lv p1, .second, lv p2, .second, lv p3, .second, lv p4, .second, iv p5, iv p6, rv b1, iv z1, iv z2, iv oi, iv oj, iv ch0, iv ch1, iv ch2, iv zB, iv 2, iv 0, rv b17, iv z1, rv b490, lv p1, .second, lv p2, .second, lv p3, .second, lv p4, .second, rv (own_o w oi), rv b502, iv 0, .unset] [(.int 1)])) _
            refine Goes.by (fun _ kz => XS.goto X561.here hx rfl (pc0 := 637) (pc' := 641) rfl (hb hby at_637) (by decide) (by decide) kz) ?_
            show Goes p e below (T561.setTop (mkF m 641 #[lv p1, .second, lv p2, .second, lv p3, .second, lv p4, .second, iv p5, iv p6, rv b1, iv z1, iv z2, iv oi, iv oj, iv ch0, iv ch1, iv ch2, iv zB, iv 2, iv 0, rv b17, iv z1, rv b490, lv p1, .second, lv p2, .second, lv p3, .second, lv p4, .second, rv (own_o w oi), rv b502, iv 0, .unset] [(.int 1)])) _
            obtain ⟨fs, hr, hrun, hended, hW, hsame⟩ := X561.leave (v := some (.int 1)) (fun h => by rw [Bd.returns] at h; cases h)
            exact ⟨_, _, retN X561 hx (t := .boolean) Bd.returns (by simp) (hb hby at_641) hr, hrun, hended, _, _, rfl, ⟨rfl, N561⟩, ⟨_, rfl⟩, hW, hsame.mono (by decide) (by decide)⟩
      · show Goes p e below (T541.setTop (mkF m 538 #[lv p1, .second, lv p2, .second, lv p3, .second, lv p4, .second, iv p5, iv p6, rv b1, iv z1, iv z2, iv oi, iv oj, iv ch0, iv ch1, iv ch2, iv zB, iv 2, iv 1, rv b17, iv z1, rv b490, lv p1, .second, lv p2, .second, lv p3, .second, lv p4, .second, rv (own_o w oi), rv b502, iv 0, .unset] [])) _
        refine Goes.by (fun _ kz => XS.iload X541.here hx rfl (hb hby at_538) rfl (XS.iconst X541.here hx rfl (hb hby at_540) (XS.icmpNo X541.here hx rfl (hb hby at_541) rfl (teq (by decide : (1 : Int32) = (1 : Int32))).2 kz))) ?_
        show Goes p e below (T541.setTop (mkF m 544 #[lv p1, .second, lv p2, .second, lv p3, .second, lv p4, .second, iv p5, iv p6, rv b1, iv z1, iv z2, iv oi, iv oj, iv ch0, iv ch1, iv ch2, iv zB, iv 2, iv 1, rv b17, iv z1, rv b490, lv p1, .second, lv p2, .second, lv p3, .second, lv p4, .second, rv (own_o w oi), rv b502, iv 0, .unset] [])) _
        refine Goes.by (fun _ kz => XS.aload X541.here hx rfl (hb hby at_544) rfl rfl (XS.aload X541.here hx rfl (hb hby at_546) rfl rfl kz)) ?_
        have f563 := ((f526.keep Kq532).keep Kq541)
        obtain ⟨cq562, kq562, q562a, q562b, q562c⟩ := isOf hZ rfl f563
        obtain ⟨_, _, ⟨T562, L562, k562, n562⟩, -, X562, ⟨Lc562, hQ562, l562, y562, z562⟩, st562⟩ := X541.virtualBack hx (y := (⟨"com/example/killdeer/killdeer/GadgetView", "equals", "(Ljava/lang/Object;)Z"⟩ : MethodName)) (z := (⟨"com/example/killdeer/killdeer/GadgetView", "equals", "(Ljava/lang/Object;)Z"⟩ : MethodName)) hown (mvT hZ (wd hw 61 rfl)) (mvT hZ (wd hw 62 rfl)) (notFace_of_selects (args := #[]) (mvT hZ (wd hw 64 rfl))) (mvT hZ (wd hw 64 rfl)) (mvT hZ (wd hw 63 rfl)) (by decide) (backOf (W := 0) (r8_same l Z a0 hw [] T541.heap n0 Z541 b17) hZ (wd hw 65 rfl) (wd hw 12 rfl) (by decide) (by decide)) q562a q562c (g := (mkF m 548 #[lv p1, .second, lv p2, .second, lv p3, .second, lv p4, .second, iv p5, iv p6, rv b1, iv z1, iv z2, iv oi, iv oj, iv ch0, iv ch1, iv ch2, iv zB, iv 2, iv 1, rv b17, iv z1, rv b490, lv p1, .second, lv p2, .second, lv p3, .second, lv p4, .second, rv (own_o w oi), rv b502, iv 0, .unset] [(.ref b17), (.ref b17)])) rfl (by rw [hml]; rfl) (Steps.refl _) (argsL := [(.ref b17)]) (rest := []) (lenOf pd2 rfl) rfl (by show 2 * 0 + _ ≤ _; exact Nat.le_of_eq rfl) (hb hby at_548) (fun _ _ => ⟨rfl, rfl, (by decide : 9 + 0 ≤ _), (by decide : 31 + 0 ≤ _)⟩)
        dsimp only [Pt.U, Pt.locs, Pt.cells, Pt.slots] at X562 l562 y562 z562 st562 hQ562
        subst l562 y562 z562
        obtain ⟨rfl, Nq562, e562⟩ := hQ562
        have N562 := Fr.app N541 Nq562
        refine Goes.tr st562 ?_
        show Goes p e below (T562.setTop (mkF m 551 #[lv p1, .second, lv p2, .second, lv p3, .second, lv p4, .second, iv p5, iv p6, rv b1, iv z1, iv z2, iv oi, iv oj, iv ch0, iv ch1, iv ch2, iv zB, iv 2, iv 1, rv b17, iv z1, rv b490, lv p1, .second, lv p2, .second, lv p3, .second, lv p4, .second, rv (own_o w oi), rv b502, iv 0, .unset] [(.int 1)])) _
        obtain ⟨fs, hr, hrun, hended, hW, hsame⟩ := X562.leave (v := some (.int 1)) (fun h => by rw [Bd.returns] at h; cases h)
        exact ⟨_, _, retN X562 hx (t := .boolean) Bd.returns (by simp) (hb hby at_551) hr, hrun, hended, _, _, rfl, ⟨rfl, N562⟩, ⟨_, rfl⟩, hW, hsame.mono (by decide) (by decide)⟩
      · show Goes p e below (T541.setTop (mkF m 538 #[lv p1, .second, lv p2, .second, lv p3, .second, lv p4, .second, iv p5, iv p6, rv b1, iv z1, iv z2, iv oi, iv oj, iv ch0, iv ch1, iv ch2, iv zB, iv 2, iv 2, rv b17, iv z1, rv b490, lv p1, .second, lv p2, .second, lv p3, .second, lv p4, .second, rv (own_o w oi), rv b502, iv 0, .unset] [])) _
        refine Goes.by (fun _ kz => XS.iload X541.here hx rfl (hb hby at_538) rfl (XS.iconst X541.here hx rfl (hb hby at_540) (XS.icmpYes X541.here hx rfl (pc0 := 541) (pc' := 552) rfl (hb hby at_541) rfl (feq (by decide : ¬ ((2 : Int32) = (1 : Int32)))).2 (by decide) (by decide) kz))) ?_
        show Goes p e below (T541.setTop (mkF m 552 #[lv p1, .second, lv p2, .second, lv p3, .second, lv p4, .second, iv p5, iv p6, rv b1, iv z1, iv z2, iv oi, iv oj, iv ch0, iv ch1, iv ch2, iv zB, iv 2, iv 2, rv b17, iv z1, rv b490, lv p1, .second, lv p2, .second, lv p3, .second, lv p4, .second, rv (own_o w oi), rv b502, iv 0, .unset] [])) _
        refine Goes.by (fun _ kz => XS.iload X541.here hx rfl (hb hby at_552) rfl (XS.iconst X541.here hx rfl (hb hby at_554) (XS.icmpNo X541.here hx rfl (hb hby at_555) rfl (teq (by decide : (2 : Int32) = (2 : Int32))).2 kz))) ?_
        show Goes p e below (T541.setTop (mkF m 558 #[lv p1, .second, lv p2, .second, lv p3, .second, lv p4, .second, iv p5, iv p6, rv b1, iv z1, iv z2, iv oi, iv oj, iv ch0, iv ch1, iv ch2, iv zB, iv 2, iv 2, rv b17, iv z1, rv b490, lv p1, .second, lv p2, .second, lv p3, .second, lv p4, .second, rv (own_o w oi), rv b502, iv 0, .unset] [])) _
        refine Goes.by (fun _ kz => XS.aload X541.here hx rfl (hb hby at_558) rfl rfl (XS.aconstNull X541.here hx rfl (hb hby at_560) kz)) ?_
        have f565 := ((f526.keep Kq532).keep Kq541)
        obtain ⟨cq564, kq564, q564a, q564b, q564c⟩ := isOf hZ rfl f565
        obtain ⟨_, _, ⟨T564, L564, k564, n564⟩, -, X564, ⟨Lc564, hQ564, l564, y564, z564⟩, st564⟩ := X541.virtualBack hx (y := (⟨"com/example/killdeer/killdeer/GadgetView", "equals", "(Ljava/lang/Object;)Z"⟩ : MethodName)) (z := (⟨"com/example/killdeer/killdeer/GadgetView", "equals", "(Ljava/lang/Object;)Z"⟩ : MethodName)) hown (mvT hZ (wd hw 61 rfl)) (mvT hZ (wd hw 62 rfl)) (notFace_of_selects (args := #[]) (mvT hZ (wd hw 64 rfl))) (mvT hZ (wd hw 64 rfl)) (mvT hZ (wd hw 63 rfl)) (by decide) (backOf (W := 0) (r8_null l Z a0 hw [] T541.heap n0 Z541 b17) hZ (wd hw 65 rfl) (wd hw 12 rfl) (by decide) (by decide)) q564a q564c (g := (mkF m 561 #[lv p1, .second, lv p2, .second, lv p3, .second, lv p4, .second, iv p5, iv p6, rv b1, iv z1, iv z2, iv oi, iv oj, iv ch0, iv ch1, iv ch2, iv zB, iv 2, iv 2, rv b17, iv z1, rv b490, lv p1, .second, lv p2, .second, lv p3, .second, lv p4, .second, rv (own_o w oi), rv b502, iv 0, .unset] [.null, (.ref b17)])) rfl (by rw [hml]; rfl) (Steps.refl _) (argsL := [.null]) (rest := []) (lenOf pd2 rfl) rfl (by show 2 * 0 + _ ≤ _; exact Nat.le_of_eq rfl) (hb hby at_561) (fun _ _ => ⟨rfl, rfl, (by decide : 9 + 0 ≤ _), (by decide : 31 + 0 ≤ _)⟩)
        dsimp only [Pt.U, Pt.locs, Pt.cells, Pt.slots] at X564 l564 y564 z564 st564 hQ564
        subst l564 y564 z564
        obtain ⟨rfl, Nq564, e564⟩ := hQ564
        have N564 := Fr.app N541 Nq564
        refine Goes.tr st564 ?_
        refine Goes.by (fun _ kz => XS.ifNo X564.here hx rfl (hb hby at_564) rfl ((if0 _ _).trans (teq (by decide : (0 : Int32) = (0 : Int32))).2) (XS.iconst X564.here hx rfl (hb hby at_567) (XS.goto X564.here hx rfl (pc0 := 568) (pc' := 572) rfl (hb hby at_568) (by decide) (by decide) kz))) ?_
        show Goes p e below (T564.setTop (mkF m 572 #[lv p1, .second, lv p2, .second, lv p3, .second, lv p4, .second, iv p5, iv p6, rv b1, iv z1, iv z2, iv oi, iv oj, iv ch0, iv ch1, iv ch2, iv zB, iv 2, iv 2, rv b17, iv z1, rv b490, lv p1, .second, lv p2, .second, lv p3, .second, lv p4, .second, rv (own_o w oi), rv b502, iv 0, .unset] [(.int 1)])) _
        obtain ⟨fs, hr, hrun, hended, hW, hsame⟩ := X564.leave (v := some (.int 1)) (fun h => by rw [Bd.returns] at h; cases h)
        exact ⟨_, _, retN X564 hx (t := .boolean) Bd.returns (by simp) (hb hby at_572) hr, hrun, hended, _, _, rfl, ⟨rfl, N564⟩, ⟨_, rfl⟩, hW, hsame.mono (by decide) (by decide)⟩
      · show Goes p e below (T541.setTop (mkF m 538 #[lv p1, .second, lv p2, .second, lv p3, .second, lv p4, .second, iv p5, iv p6, rv b1, iv z1, iv z2, iv oi, iv oj, iv ch0, iv ch1, iv ch2, iv zB, iv 2, iv 3, rv b17, iv z1, rv b490, lv p1, .second, lv p2, .second, lv p3, .second, lv p4, .second, rv (own_o w oi), rv b502, iv 0, .unset] [])) _
        refine Goes.by (fun _ kz => XS.iload X541.here hx rfl (hb hby at_538) rfl (XS.iconst X541.here hx rfl (hb hby at_540) (XS.icmpYes X541.here hx rfl (pc0 := 541) (pc' := 552) rfl (hb hby at_541) rfl (feq (by decide : ¬ ((3 : Int32) = (1 : Int32)))).2 (by decide) (by decide) kz))) ?_
        show Goes p e below (T541.setTop (mkF m 552 #[lv p1, .second, lv p2, .second, lv p3, .second, lv p4, .second, iv p5, iv p6, rv b1, iv z1, iv z2, iv oi, iv oj, iv ch0, iv ch1, iv ch2, iv zB, iv 2, iv 3, rv b17, iv z1, rv b490, lv p1, .second, lv p2, .second, lv p3, .second, lv p4, .second, rv (own_o w oi), rv b502, iv 0, .unset] [])) _
        refine Goes.by (fun _ kz => XS.iload X541.here hx rfl (hb hby at_552) rfl (XS.iconst X541.here hx rfl (hb hby at_554) (XS.icmpYes X541.here hx rfl (pc0 := 555) (pc' := 573) rfl (hb hby at_555) rfl (feq (by decide : ¬ ((3 : Int32) = (2 : Int32)))).2 (by decide) (by decide) kz))) ?_
        show Goes p e below (T541.setTop (mkF m 573 #[lv p1, .second, lv p2, .second, lv p3, .second, lv p4, .second, iv p5, iv p6, rv b1, iv z1, iv z2, iv oi, iv oj, iv ch0, iv ch1, iv ch2, iv zB, iv 2, iv 3, rv b17, iv z1, rv b490, lv p1, .second, lv p2, .second, lv p3, .second, lv p4, .second, rv (own_o w oi), rv b502, iv 0, .unset] [])) _
        refine Goes.by (fun _ kz => XS.iload X541.here hx rfl (hb hby at_573) rfl (XS.iconst X541.here hx rfl (hb hby at_575) (XS.icmpNo X541.here hx rfl (hb hby at_576) rfl (teq (by decide : (3 : Int32) = (3 : Int32))).2 kz))) ?_
        have f567 := ((f522.keep Kq532).keep Kq541)
        have f568 := ((f523.keep Kq532).keep Kq541)
        have f569 := ((f524.keep Kq532).keep Kq541)
        have f570 := ((f525.keep Kq532 (ninS ne510_b1 nin0)).keep Kq541 (ninS ne502_b1 nin0))
        have f571 := ((f526.keep Kq532).keep Kq541)
        have f572 := ((f527.keep Kq532).keep Kq541)
        have f573 := ((f528.keep Kq532 (ninS ne510_b26 nin0)).keep Kq541 (ninS ne502_b26 nin0))
        have f574 := ((f529.keep Kq532 (ninS ne510_t44 nin0)).keep Kq541 (ninS ne502_t44 nin0))
        have f575 := ((f520.keep Kq532 (ninS ne510_b490 nin0)).keep Kq541 (ninS ne502_b490 nin0))
        have f576 := (f533.keep Kq541)
        have f577 := ((A510.keep Kq532).keep Kq541)
        have f578 := (gA532.keep Kq541 (ninS (Ne.symm net532_b502) nin0))
        obtain ⟨T566, h566, X566, e566, E566, A566, D566, -, st566⟩ := newO X541 hx hZ hown (wd hw 13 rfl) (wd hw 14 rfl) (wd hw 15 rfl) rfl (g := (mkF m 579 #[lv p1, .second, lv p2, .second, lv p3, .second, lv p4, .second, iv p5, iv p6, rv b1, iv z1, iv z2, iv oi, iv oj, iv ch0, iv ch1, iv ch2, iv zB, iv 2, iv 3, rv b17, iv z1, rv b490, lv p1, .second, lv p2, .second, lv p3, .second, lv p4, .second, rv (own_o w oi), rv b502, iv 0, .unset] [])) rfl (hb hby at_579) (by decide) (by decide)
        obtain ⟨b566, g566⟩ : ∃ z, z = T541.heap.size := ⟨_, rfl⟩
        rw [← g566] at A566 D566 st566
        have ne566__w_0_ : (w 0) ≠ b566 := Nat.ne_of_lt (Nat.lt_of_lt_of_le f567.lt (Nat.le_of_eq g566.symm))
        have ne566__w_1_ : (w 1) ≠ b566 := Nat.ne_of_lt (Nat.lt_of_lt_of_le f568.lt (Nat.le_of_eq g566.symm))
        have ne566__w_2_ : (w 2) ≠ b566 := Nat.ne_of_lt (Nat.lt_of_lt_of_le f569.lt (Nat.le_of_eq g566.symm))
        have ne566_b1 : b1 ≠ b566 := Nat.ne_of_lt (Nat.lt_of_lt_of_le f570.lt (Nat.le_of_eq g566.symm))
        have ne566_b17 : b17 ≠ b566 := Nat.ne_of_lt (Nat.lt_of_lt_of_le f571.lt (Nat.le_of_eq g566.symm))
        have ne566_b21 : b21 ≠ b566 := Nat.ne_of_lt (Nat.lt_of_lt_of_le f572.lt (Nat.le_of_eq g566.symm))
        have ne566_b26 : b26 ≠ b566 := Nat.ne_of_lt (Nat.lt_of_lt_of_le f573.lt (Nat.le_of_eq g566.symm))
        have ne566_t44 : t44 ≠ b566 := Nat.ne_of_lt (Nat.lt_of_lt_of_le f574.lt (Nat.le_of_eq g566.symm))
        have ne566_b490 : b490 ≠ b566 := Nat.ne_of_lt (Nat.lt_of_lt_of_le f575.lt (Nat.le_of_eq g566.symm))
        have ne566_b502 : b502 ≠ b566 := Nat.ne_of_lt (Nat.lt_of_lt_of_le f576.lt (Nat.le_of_eq g566.symm))
        have ne566_b510 : b510 ≠ b566 := Nat.ne_of_lt (Nat.lt_of_lt_of_le f577.lt (Nat.le_of_eq g566.symm))
        have ne566_t532 : t532 ≠ b566 := Nat.ne_of_lt (Nat.lt_of_lt_of_le f578.lt (Nat.le_of_eq g566.symm))
        have g_b566 : n0 ≤ b566 := Nat.le_trans Z541 (Nat.le_of_eq g566.symm)
        have sz_b566 : h0.size ≤ b566 := Nat.le_trans K541.1 (Nat.le_of_eq g566.symm)
        have F566_coder : Fld Z h566 b566 "java/lang/String" "coder" "B" (.int 0) := D566 (Or.inr (wd hw 40 rfl)) (ty := .byte) (by decide)
        have F566_value : Fld Z h566 b566 "java/lang/String" "value" "[B" .null := D566 (Or.inr (wd hw 42 rfl)) (ty := (.array .byte)) (by decide)
        have K566 : Keep h0 h566 [] := Keep.ext K541 E566
        have Z566 : n0 ≤ h566.size := Nat.le_trans Z541 E566.1
        refine Goes.by st566 ?_
        refine Goes.by (fun _ kz => XS.dup X566.here hx rfl (hb hby at_582) rfl rfl (XS.iconst X566.here hx rfl (hb hby at_583) kz)) ?_
        have f580 := (f567.ext E566)
        have f581 := (f568.ext E566)
        have f582 := (f569.ext E566)
        have f583 := (f570.ext E566)
        have f584 := (f571.ext E566)
        have f585 := (f572.ext E566)
        have f586 := (f573.ext E566)
        have f587 := (f574.ext E566)
        have f588 := (f575.ext E566)
        have f589 := (f576.ext E566)
        have f590 := (f577.ext E566)
        have f591 := (f578.ext E566)
        obtain ⟨T579, h579, k579, X579, e579, E579, A579, st579⟩ := newP X566 hx hZ (wd hw 16 rfl) e566 (g := (mkF m 584 #[lv p1, .second, lv p2, .second, lv p3, .second, lv p4, .second, iv p5, iv p6, rv b1, iv z1, iv z2, iv oi, iv oj, iv ch0, iv ch1, iv ch2, iv zB, iv 2, iv 3, rv b17, iv z1, rv b490, lv p1, .second, lv p2, .second, lv p3, .second, lv p4, .second, rv (own_o w oi), rv b502, iv 0, .unset] [(.int 1), (.ref b566), (.ref b566)])) rfl (hb hby at_584) rfl (by decide) (cap := 1) (by decide) (by decide) (by decide) (by decide)
        obtain ⟨b579, g579⟩ : ∃ z, z = h566.size := ⟨_, rfl⟩
        rw [← g579] at A579 st579
        have ne579__w_0_ : (w 0) ≠ b579 := Nat.ne_of_lt (Nat.lt_of_lt_of_le f580.lt (Nat.le_of_eq g579.symm))
        have ne579__w_1_ : (w 1) ≠ b579 := Nat.ne_of_lt (Nat.lt_of_lt_of_le f581.lt (Nat.le_of_eq g579.symm))
        have ne579__w_2_ : (w 2) ≠ b579 := Nat.ne_of_lt (Nat.lt_of_lt_of_le f582.lt (Nat.le_of_eq g579.symm))
        have ne579_b1 : b1 ≠ b579 := Nat.ne_of_lt (Nat.lt_of_lt_of_le f583.lt (Nat.le_of_eq g579.symm))
        have ne579_b17 : b17 ≠ b579 := Nat.ne_of_lt (Nat.lt_of_lt_of_le f584.lt (Nat.le_of_eq g579.symm))
        have ne579_b21 : b21 ≠ b579 := Nat.ne_of_lt (Nat.lt_of_lt_of_le f585.lt (Nat.le_of_eq g579.symm))
        have ne579_b26 : b26 ≠ b579 := Nat.ne_of_lt (Nat.lt_of_lt_of_le f586.lt (Nat.le_of_eq g579.symm))
        have ne579_t44 : t44 ≠ b579 := Nat.ne_of_lt (Nat.lt_of_lt_of_le f587.lt (Nat.le_of_eq g579.symm))
        have ne579_b490 : b490 ≠ b579 := Nat.ne_of_lt (Nat.lt_of_lt_of_le f588.lt (Nat.le_of_eq g579.symm))
        have ne579_b502 : b502 ≠ b579 := Nat.ne_of_lt (Nat.lt_of_lt_of_le f589.lt (Nat.le_of_eq g579.symm))
        have ne579_b510 : b510 ≠ b579 := Nat.ne_of_lt (Nat.lt_of_lt_of_le f590.lt (Nat.le_of_eq g579.symm))
        have ne579_t532 : t532 ≠ b579 := Nat.ne_of_lt (Nat.lt_of_lt_of_le f591.lt (Nat.le_of_eq g579.symm))
        have ne579_b566 : b566 ≠ b579 := Nat.ne_of_lt (Nat.lt_of_lt_of_le A566.lt (Nat.le_of_eq g579.symm))
        have g_b579 : n0 ≤ b579 := Nat.le_trans Z566 (Nat.le_of_eq g579.symm)
        have sz_b579 : h0.size ≤ b579 := Nat.le_trans K566.1 (Nat.le_of_eq g579.symm)
        have V579 : Arv Z h579 b579 k579 .char (1 : Int32) [(.int 0)] (.int 0) := (Arv.new A579 (by decide)).pad (pad_rep [] (.int 0) 1)
        have K579 : Keep h0 h579 [] := Keep.ext K566 E579
        have Z579 : n0 ≤ h579.size := Nat.le_trans Z566 E579.1
        refine Goes.by st579 ?_
        refine Goes.by (fun _ kz => XS.dup X579.here hx rfl (hb hby at_586) rfl rfl (XS.iconst X579.here hx rfl (hb hby at_587) (XS.iload X579.here hx rfl (hb hby at_588) rfl kz))) ?_
        obtain ⟨cl592, Ar592, Cq592, Sz592, Nn592, Hh592, Gg592⟩ := id V579
        have hin592 : ¬ ((0 : Int32) < 0 ∨ cl592.slots.size ≤ ((0 : Int32)).toNatClampNeg) := inb_of Sz592 ⟨by decide, by decide⟩
        obtain ⟨T592, h592, X592, e592, W592, st592⟩ := stC X579 hx hZ e579 Ar592 (j := (0 : Int32)) hin592 (g := (mkF m 590 #[lv p1, .second, lv p2, .second, lv p3, .second, lv p4, .second, iv p5, iv p6, rv b1, iv z1, iv z2, iv oi, iv oj, iv ch0, iv ch1, iv ch2, iv zB, iv 2, iv 3, rv b17, iv z1, rv b490, lv p1, .second, lv p2, .second, lv p3, .second, lv p4, .second, rv (own_o w oi), rv b502, iv 0, .unset] [(.int ch0), (.int 0), (.ref b579), (.ref b579), (.ref b566), (.ref b566)])) rfl rfl (hb hby at_590)
        have V592 : Arv Z h592 b579 k579 .char (1 : Int32) [(.int (nar .char ch0))] (.int 0) := Arv.set Ar592 Cq592 Sz592 Nn592 Hh592 Gg592 (fits_nar_char _) W592 0 rfl (Nat.le_of_ble_eq_true rfl)
        rw [hn_ch0] at V592
        have K592 : Keep h0 h592 [] := Keep.wr K579 W592 (Or.inr sz_b579)
        have Z592 : n0 ≤ h592.size := Nat.le_trans Z579 (Keep.of_wr W592).1
        have N592 := Fr.snoc X592 N541 g_b579
        refine Goes.by st592 ?_
        show Goes p e below (T592.setTop (mkF m 591 #[lv p1, .second, lv p2, .second, lv p3, .second, lv p4, .second, iv p5, iv p6, rv b1, iv z1, iv z2, iv oi, iv oj, iv ch0, iv ch1, iv ch2, iv zB, iv 2, iv 3, rv b17, iv z1, rv b490, lv p1, .second, lv p2, .second, lv p3, .second, lv p4, .second, rv (own_o w oi), rv b502, iv 0, .unset] [(.ref b579), (.ref b566), (.ref b566)])) _
        have f593 := (Exa.wr W592 (A566.ext E579))
        have f594 := (Fld.other W592 (F566_value.ext E579) (Or.inl ne579_b566))
        have f595 := (Fld.other W592 (F566_coder.ext E579) (Or.inl ne579_b566))
        have f596 := (Sta.wr W592 (((own_staKeep (own_staKeep f521 Kq532 (allS (own_nsE A510) all0)) Kq541 (allS (own_nsE f533) all0)).ext E566).ext E579))
        have f597 := (Exa.wr W592 (f580.ext E579))
        have f598 := (Exa.wr W592 (f581.ext E579))
        have f599 := (Exa.wr W592 (f582.ext E579))
        have f600 := ((f583.ext E579).other W592 ne579_b1)
        have f601 := (Exa.wr W592 (f584.ext E579))
        have f602 := (Exa.wr W592 (f585.ext E579))
        have f603 := ((f586.ext E579).other W592 ne579_b26)
        have f604 := ((f587.ext E579).other W592 ne579_t44)
        have f605 := ((f588.ext E579).other W592 ne579_b490)
        have f606 := (Exa.wr W592 (f589.ext E579))
        have f607 := (Exa.wr W592 (f590.ext E579))
        have f608 := ((f591.ext E579).other W592 ne579_t532)
        have hp609 : ∀ c ∈ ([ch0] : List Int32), ¬ c < 0 ∧ ¬ (255 : Int32) < c := by
          intro c hc; simp only [List.mem_cons, List.not_mem_nil, or_false] at hc
          rw [hc]; exact hb_ch0
        have hcd609 : StrChars.Road.CodA ([ch0] : List Int32) 0 (1 : Int32) ((([ch0] : List Int32).map (fun c => c.toInt8.toInt32)).map Value.int) := StrChars.Road.codOf (n := 1) rfl (fun c hc => (hp609 c hc).2)
        have hbd609 := own_up _ hp609
        obtain ⟨_, _, ⟨T610, L610, k610, n610⟩, -, X610, ⟨Lc610, hQ610, l610, y610, z610⟩, st610⟩ := X592.specialBack hx (y := (⟨"java/lang/String", "<init>", "([C)V"⟩ : MethodName)) rfl hown (mvT hZ (wd hw 17 rfl)) (mvT hZ (wd hw 18 rfl)) (mvT hZ (wd hw 19 rfl)) (by decide) (StrChars.Road.backV (W := 1) hZ hws (kI := 4) (wd hw 14 rfl) (cs := ([ch0] : List Int32)) (bs := (([ch0] : List Int32).map (fun c => c.toInt8.toInt32))) (n := 1) g_b566 Z592 f593 f594 f595 V592 f596 hzc rfl rfl (by decide) (by decide) hp609 rfl (by decide) (by decide)) (g := (mkF m 591 #[lv p1, .second, lv p2, .second, lv p3, .second, lv p4, .second, iv p5, iv p6, rv b1, iv z1, iv z2, iv oi, iv oj, iv ch0, iv ch1, iv ch2, iv zB, iv 2, iv 3, rv b17, iv z1, rv b490, lv p1, .second, lv p2, .second, lv p3, .second, lv p4, .second, rv (own_o w oi), rv b502, iv 0, .unset] [(.ref b579), (.ref b566), (.ref b566)])) rfl (by rw [hml]; rfl) (Steps.refl _) (a := b566) (argsL := [(.ref b579)]) (rest := [(.ref b566)]) (lenOf pd0 rfl) rfl (by show 2 * 0 + _ ≤ _; exact Nat.le_of_eq rfl) (hb hby at_591) (fun _ _ => ⟨rfl, e592, (by decide : 11 + 1 ≤ _), (by decide : 36 + 1 ≤ _)⟩)
        dsimp only [Pt.U, Pt.locs, Pt.cells, Pt.slots] at X610 l610 y610 z610 st610 hQ610
        subst l610 y610 z610
        obtain ⟨rfl, Nq610, Kq610, gE610, gC610, t610, kb610, u1_610, u2_610, u3_610, gV610, gA610⟩ := hQ610
        have K610 : Keep h0 T610.heap [] := Keep.trans K592 Kq610 (allS (Or.inr sz_b566) all0)
        have Z610 : n0 ≤ T610.heap.size := Nat.le_trans Z592 Kq610.1
        have net610__w_0_ : (w 0) ≠ t610 := Nat.ne_of_lt (Nat.lt_of_lt_of_le f597.lt u2_610)
        have net610__w_1_ : (w 1) ≠ t610 := Nat.ne_of_lt (Nat.lt_of_lt_of_le f598.lt u2_610)
        have net610__w_2_ : (w 2) ≠ t610 := Nat.ne_of_lt (Nat.lt_of_lt_of_le f599.lt u2_610)
        have net610_b1 : b1 ≠ t610 := Nat.ne_of_lt (Nat.lt_of_lt_of_le f600.lt u2_610)
        have net610_b17 : b17 ≠ t610 := Nat.ne_of_lt (Nat.lt_of_lt_of_le f601.lt u2_610)
        have net610_b21 : b21 ≠ t610 := Nat.ne_of_lt (Nat.lt_of_lt_of_le f602.lt u2_610)
        have net610_b26 : b26 ≠ t610 := Nat.ne_of_lt (Nat.lt_of_lt_of_le f603.lt u2_610)
        have net610_t44 : t44 ≠ t610 := Nat.ne_of_lt (Nat.lt_of_lt_of_le f604.lt u2_610)
        have net610_b490 : b490 ≠ t610 := Nat.ne_of_lt (Nat.lt_of_lt_of_le f605.lt u2_610)
        have net610_b502 : b502 ≠ t610 := Nat.ne_of_lt (Nat.lt_of_lt_of_le f606.lt u2_610)
        have net610_b510 : b510 ≠ t610 := Nat.ne_of_lt (Nat.lt_of_lt_of_le f607.lt u2_610)
        have net610_t532 : t532 ≠ t610 := Nat.ne_of_lt (Nat.lt_of_lt_of_le f608.lt u2_610)
        have net610_b566 : b566 ≠ t610 := Nat.ne_of_lt (Nat.lt_of_lt_of_le f593.lt u2_610)
        have net610_b579 : b579 ≠ t610 := Nat.ne_of_lt (Nat.lt_of_lt_of_le V592.lt u2_610)
        have g_t610 : n0 ≤ t610 := Nat.le_trans Z592 u2_610
        have sz_t610 : h0.size ≤ t610 := Nat.le_trans K592.1 u2_610
        have N610 := Fr.app N592 Nq610
        refine Goes.tr st610 ?_
        refine Goes.by (fun _ kz => XS.astore X610.here hx rfl (hb hby at_594) rfl rfl rfl (XS.aload X610.here hx rfl (hb hby at_596) rfl rfl (XS.aload X610.here hx rfl (hb hby at_598) rfl rfl kz))) ?_
        have f611 := (f593.keep Kq610)
        have f613 := (f601.keep Kq610)
        obtain ⟨cq612, kq612, q612a, q612b, q612c⟩ := isOf hZ rfl f613
        obtain ⟨_, _, ⟨T612, L612, k612, n612⟩, -, X612, ⟨Lc612, hQ612, l612, y612, z612⟩, st612⟩ := X610.virtualBack hx (y := (⟨"com/example/killdeer/killdeer/GadgetView", "equals", "(Ljava/lang/Object;)Z"⟩ : MethodName)) (z := (⟨"com/example/killdeer/killdeer/GadgetView", "equals", "(Ljava/lang/Object;)Z"⟩ : MethodName)) hown (mvT hZ (wd hw 61 rfl)) (mvT hZ (wd hw 62 rfl)) (notFace_of_selects (args := #[]) (mvT hZ (wd hw 64 rfl))) (mvT hZ (wd hw 64 rfl)) (mvT hZ (wd hw 63 rfl)) (by decide) (backOf (W := 0) (r8_str l Z a0 hw [] T610.heap n0 Z610 b17 b566 f611 ne566_b17) hZ (wd hw 65 rfl) (wd hw 12 rfl) (by decide) (by decide)) q612a q612c (g := (mkF m 600 #[lv p1, .second, lv p2, .second, lv p3, .second, lv p4, .second, iv p5, iv p6, rv b1, iv z1, iv z2, iv oi, iv oj, iv ch0, iv ch1, iv ch2, iv zB, iv 2, iv 3, rv b17, iv z1, rv b490, lv p1, .second, lv p2, .second, lv p3, .second, lv p4, .second, rv (own_o w oi), rv b502, iv 0, rv b566] [(.ref b566), (.ref b17)])) rfl (by rw [hml]; rfl) (Steps.refl _) (argsL := [(.ref b566)]) (rest := []) (lenOf pd2 rfl) rfl (by show 2 * 0 + _ ≤ _; exact Nat.le_of_eq rfl) (hb hby at_600) (fun _ _ => ⟨rfl, rfl, (by decide : 12 + 0 ≤ _), (by decide : 37 + 0 ≤ _)⟩)
        dsimp only [Pt.U, Pt.locs, Pt.cells, Pt.slots] at X612 l612 y612 z612 st612 hQ612
        subst l612 y612 z612
        obtain ⟨rfl, Nq612, e612⟩ := hQ612
        have N612 := Fr.app N610 Nq612
        refine Goes.tr st612 ?_
        refine Goes.by (fun _ kz => XS.ifNo X612.here hx rfl (hb hby at_603) rfl ((if0 _ _).trans (teq (by decide : (0 : Int32) = (0 : Int32))).2) (XS.iconst X612.here hx rfl (hb hby at_606) (XS.goto X612.here hx rfl (pc0 := 607) (pc' := 611) rfl (hb hby at_607) (by decide) (by decide) kz))) ?_
        show Goes p e below (T612.setTop (mkF m 611 #[lv p1, .second, lv p2, .second, lv p3, .second, lv p4, .second, iv p5, iv p6, rv b1, iv z1, iv z2, iv oi, iv oj, iv ch0, iv ch1, iv ch2, iv zB, iv 2, iv 3, rv b17, iv z1, rv b490, lv p1, .second, lv p2, .second, lv p3, .second, lv p4, .second, rv (own_o w oi), rv b502, iv 0, rv b566] [(.int 1)])) _
        obtain ⟨fs, hr, hrun, hended, hW, hsame⟩ := X612.leave (v := some (.int 1)) (fun h => by rw [Bd.returns] at h; cases h)
        exact ⟨_, _, retN X612 hx (t := .boolean) Bd.returns (by simp) (hb hby at_611) hr, hrun, hended, _, _, rfl, ⟨rfl, N612⟩, ⟨_, rfl⟩, hW, hsame.mono (by decide) (by decide)⟩
  · show Goes p e below (T81.setTop (mkF m 186 #[lv p1, .second, lv p2, .second, lv p3, .second, lv p4, .second, iv p5, iv p6, rv b1, iv z1, iv z2, iv oi, iv oj, iv ch0, iv ch1, iv ch2, iv zB, iv 3, iv (((p6.toUInt32 >>> ((4 : Int32) &&& 31).toUInt32).toInt32) &&& (3 : Int32)), rv b17, .unset, .unset, .unset, .unset, .unset, .unset, .unset, .unset, .unset, .unset, .unset, .unset, .unset, .unset] [])) _
    refine Goes.by (fun _ kz => XS.iload X81.here hx rfl (hb hby at_186) rfl (XS.iconst X81.here hx rfl (hb hby at_188) (XS.icmpYes X81.here hx rfl (pc0 := 189) (pc' := 197) rfl (hb hby at_189) rfl (feq (by decide : ¬ ((3 : Int32) = (1 : Int32)))).2 (by decide) (by decide) kz))) ?_
    show Goes p e below (T81.setTop (mkF m 197 #[lv p1, .second, lv p2, .second, lv p3, .second, lv p4, .second, iv p5, iv p6, rv b1, iv z1, iv z2, iv oi, iv oj, iv ch0, iv ch1, iv ch2, iv zB, iv 3, iv (((p6.toUInt32 >>> ((4 : Int32) &&& 31).toUInt32).toInt32) &&& (3 : Int32)), rv b17, .unset, .unset, .unset, .unset, .unset, .unset, .unset, .unset, .unset, .unset, .unset, .unset, .unset, .unset] [])) _
    refine Goes.by (fun _ kz => XS.iload X81.here hx rfl (hb hby at_197) rfl (XS.istore X81.here hx rfl (hb hby at_199) rfl rfl (XS.iload X81.here hx rfl (hb hby at_201) rfl kz))) ?_
    show Goes p e below (T81.setTop (mkF m 203 #[lv p1, .second, lv p2, .second, lv p3, .second, lv p4, .second, iv p5, iv p6, rv b1, iv z1, iv z2, iv oi, iv oj, iv ch0, iv ch1, iv ch2, iv zB, iv 3, iv (((p6.toUInt32 >>> ((4 : Int32) &&& 31).toUInt32).toInt32) &&& (3 : Int32)), rv b17, iv z1, .unset, .unset, .unset, .unset, .unset, .unset, .unset, .unset, .unset, .unset, .unset, .unset, .unset] [(.int 3)])) _
    refine Goes.by (fun _ kz => XS.iconst X81.here hx rfl (hb hby at_203) (XS.icmpYes X81.here hx rfl (pc0 := 204) (pc' := 243) rfl (hb hby at_204) rfl (feq (by decide : ¬ ((3 : Int32) = (2 : Int32)))).2 (by decide) (by decide) (XS.iconst X81.here hx rfl (hb hby at_243) kz))) ?_
    have f615 := ((f38.keep Kq44).keep Kq81)
    have f616 := ((f39.keep Kq44).keep Kq81)
    have f617 := ((f40.keep Kq44).keep Kq81)
    have f618 := (f46.keep Kq81 (ninS ne17_b1 nin0))
    have f619 := (f73.keep Kq81)
    have f620 := ((f34.keep Kq44).keep Kq81)
    have f621 := ((V33.keep Kq44 (ninS (Ne.symm ne26_b21) nin0)).keep Kq81 (ninS (Ne.symm ne26_b17) nin0))
    have f622 := (gA44.keep Kq81 (ninS (Ne.symm net44_b17) nin0))
    obtain ⟨T614, h614, k614, X614, e614, E614, A614, st614⟩ := newP X81 hx hZ (wd hw 16 rfl) rfl (g := (mkF m 244 #[lv p1, .second, lv p2, .second, lv p3, .second, lv p4, .second, iv p5, iv p6, rv b1, iv z1, iv z2, iv oi, iv oj, iv ch0, iv ch1, iv ch2, iv zB, iv 3, iv (((p6.toUInt32 >>> ((4 : Int32) &&& 31).toUInt32).toInt32) &&& (3 : Int32)), rv b17, iv z1, .unset, .unset, .unset, .unset, .unset, .unset, .unset, .unset, .unset, .unset, .unset, .unset, .unset] [(.int 2)])) rfl (hb hby at_244) rfl (by decide) (cap := 2) (by decide) (by decide) (by decide) (by decide)
    obtain ⟨b614, g614⟩ : ∃ z, z = T81.heap.size := ⟨_, rfl⟩
    rw [← g614] at A614 st614
    have ne614__w_0_ : (w 0) ≠ b614 := Nat.ne_of_lt (Nat.lt_of_lt_of_le f615.lt (Nat.le_of_eq g614.symm))
    have ne614__w_1_ : (w 1) ≠ b614 := Nat.ne_of_lt (Nat.lt_of_lt_of_le f616.lt (Nat.le_of_eq g614.symm))
    have ne614__w_2_ : (w 2) ≠ b614 := Nat.ne_of_lt (Nat.lt_of_lt_of_le f617.lt (Nat.le_of_eq g614.symm))
    have ne614_b1 : b1 ≠ b614 := Nat.ne_of_lt (Nat.lt_of_lt_of_le f618.lt (Nat.le_of_eq g614.symm))
    have ne614_b17 : b17 ≠ b614 := Nat.ne_of_lt (Nat.lt_of_lt_of_le f619.lt (Nat.le_of_eq g614.symm))
    have ne614_b21 : b21 ≠ b614 := Nat.ne_of_lt (Nat.lt_of_lt_of_le f620.lt (Nat.le_of_eq g614.symm))
    have ne614_b26 : b26 ≠ b614 := Nat.ne_of_lt (Nat.lt_of_lt_of_le f621.lt (Nat.le_of_eq g614.symm))
    have ne614_t44 : t44 ≠ b614 := Nat.ne_of_lt (Nat.lt_of_lt_of_le f622.lt (Nat.le_of_eq g614.symm))
    have g_b614 : n0 ≤ b614 := Nat.le_trans Z81 (Nat.le_of_eq g614.symm)
    have sz_b614 : h0.size ≤ b614 := Nat.le_trans K81.1 (Nat.le_of_eq g614.symm)
    have V614 : Arv Z h614 b614 k614 .char (2 : Int32) [(.int 0), (.int 0)] (.int 0) := (Arv.new A614 (by decide)).pad (pad_rep [] (.int 0) 2)
    have K614 : Keep h0 h614 [] := Keep.ext K81 E614
    have Z614 : n0 ≤ h614.size := Nat.le_trans Z81 E614.1
    refine Goes.by st614 ?_
    refine Goes.by (fun _ kz => XS.dup X614.here hx rfl (hb hby at_246) rfl rfl (XS.iconst X614.here hx rfl (hb hby at_247) (XS.iload X614.here hx rfl (hb hby at_248) rfl kz))) ?_
    obtain ⟨cl623, Ar623, Cq623, Sz623, Nn623, Hh623, Gg623⟩ := id V614
    have hin623 : ¬ ((0 : Int32) < 0 ∨ cl623.slots.size ≤ ((0 : Int32)).toNatClampNeg) := inb_of Sz623 ⟨by decide, by decide⟩
    obtain ⟨T623, h623, X623, e623, W623, st623⟩ := stC X614 hx hZ e614 Ar623 (j := (0 : Int32)) hin623 (g := (mkF m 250 #[lv p1, .second, lv p2, .second, lv p3, .second, lv p4, .second, iv p5, iv p6, rv b1, iv z1, iv z2, iv oi, iv oj, iv ch0, iv ch1, iv ch2, iv zB, iv 3, iv (((p6.toUInt32 >>> ((4 : Int32) &&& 31).toUInt32).toInt32) &&& (3 : Int32)), rv b17, iv z1, .unset, .unset, .unset, .unset, .unset, .unset, .unset, .unset, .unset, .unset, .unset, .unset, .unset] [(.int ch0), (.int 0), (.ref b614), (.ref b614)])) rfl rfl (hb hby at_250)
    have V623 : Arv Z h623 b614 k614 .char (2 : Int32) [(.int (nar .char ch0)), (.int 0)] (.int 0) := Arv.set Ar623 Cq623 Sz623 Nn623 Hh623 Gg623 (fits_nar_char _) W623 0 rfl (Nat.le_of_ble_eq_true rfl)
    rw [hn_ch0] at V623
    have K623 : Keep h0 h623 [] := Keep.wr K614 W623 (Or.inr sz_b614)
    have Z623 : n0 ≤ h623.size := Nat.le_trans Z614 (Keep.of_wr W623).1
    have N623 := Fr.snoc X623 N81 g_b614
    refine Goes.by st623 ?_
    refine Goes.by (fun _ kz => XS.dup X623.here hx rfl (hb hby at_251) rfl rfl (XS.iconst X623.here hx rfl (hb hby at_252) (XS.iload X623.here hx rfl (hb hby at_253) rfl kz))) ?_
    obtain ⟨cl624, Ar624, Cq624, Sz624, Nn624, Hh624, Gg624⟩ := id V623
    have hin624 : ¬ ((1 : Int32) < 0 ∨ cl624.slots.size ≤ ((1 : Int32)).toNatClampNeg) := inb_of Sz624 ⟨by decide, by decide⟩
    obtain ⟨T624, h624, X624, e624, W624, st624⟩ := stC X623 hx hZ e623 Ar624 (j := (1 : Int32)) hin624 (g := (mkF m 255 #[lv p1, .second, lv p2, .second, lv p3, .second, lv p4, .second, iv p5, iv p6, rv b1, iv z1, iv z2, iv oi, iv oj, iv ch0, iv ch1, iv ch2, iv zB, iv 3, iv (((p6.toUInt32 >>> ((4 : Int32) &&& 31).toUInt32).toInt32) &&& (3 : Int32)), rv b17, iv z1, .unset, .unset, .unset, .unset, .unset, .unset, .unset, .unset, .unset, .unset, .unset, .unset, .unset] [(.int ch1), (.int 1), (.ref b614), (.ref b614)])) rfl rfl (hb hby at_255)
    have V624 : Arv Z h624 b614 k614 .char (2 : Int32) [(.int ch0), (.int (nar .char ch1))] (.int 0) := Arv.set Ar624 Cq624 Sz624 Nn624 Hh624 Gg624 (fits_nar_char _) W624 1 rfl (Nat.le_of_ble_eq_true rfl)
    rw [hn_ch1] at V624
    have K624 : Keep h0 h624 [] := Keep.wr K623 W624 (Or.inr sz_b614)
    have Z624 : n0 ≤ h624.size := Nat.le_trans Z623 (Keep.of_wr W624).1
    have N624 := Fr.snoc X624 N623 g_b614
    refine Goes.by st624 ?_
    refine Goes.by (fun _ kz => XS.astore X624.here hx rfl (hb hby at_256) rfl rfl rfl (XS.iload X624.here hx rfl (hb hby at_258) rfl (XS.iconst X624.here hx rfl (hb hby at_260) kz))) ?_
    show Goes p e below (T624.setTop (mkF m 261 #[lv p1, .second, lv p2, .second, lv p3, .second, lv p4, .second, iv p5, iv p6, rv b1, iv z1, iv z2, iv oi, iv oj, iv ch0, iv ch1, iv ch2, iv zB, iv 3, iv (((p6.toUInt32 >>> ((4 : Int32) &&& 31).toUInt32).toInt32) &&& (3 : Int32)), rv b17, iv z1, rv b614, .unset, .unset, .unset, .unset, .unset, .unset, .unset, .unset, .unset, .unset, .unset, .unset] [(.int 3), (.int 3)])) _
    refine Goes.by (fun _ kz => XS.icmpNo X624.here hx rfl (hb hby at_261) rfl (teq (by decide : (3 : Int32) = (3 : Int32))).2 (XS.lload X624.here hx rfl (hb hby at_264) rfl (XS.goto X624.here hx rfl (pc0 := 266) (pc' := 270) rfl (hb hby at_266) (by decide) (by decide) kz))) ?_
    show Goes p e below (T624.setTop (mkF m 270 #[lv p1, .second, lv p2, .second, lv p3, .second, lv p4, .second, iv p5, iv p6, rv b1, iv z1, iv z2, iv oi, iv oj, iv ch0, iv ch1, iv ch2, iv zB, iv 3, iv (((p6.toUInt32 >>> ((4 : Int32) &&& 31).toUInt32).toInt32) &&& (3 : Int32)), rv b17, iv z1, rv b614, .unset, .unset, .unset, .unset, .unset, .unset, .unset, .unset, .unset, .unset, .unset, .unset] [(.long p4)])) _
    refine Goes.by (fun _ kz => XS.lstore X624.here hx rfl (hb hby at_270) rfl rfl (XS.iload X624.here hx rfl (hb hby at_272) rfl (XS.iconst X624.here hx rfl (hb hby at_274) kz))) ?_
    show Goes p e below (T624.setTop (mkF m 275 #[lv p1, .second, lv p2, .second, lv p3, .second, lv p4, .second, iv p5, iv p6, rv b1, iv z1, iv z2, iv oi, iv oj, iv ch0, iv ch1, iv ch2, iv zB, iv 3, iv (((p6.toUInt32 >>> ((4 : Int32) &&& 31).toUInt32).toInt32) &&& (3 : Int32)), rv b17, iv z1, rv b614, lv p4, .second, .unset, .unset, .unset, .unset, .unset, .unset, .unset, .unset, .unset, .unset] [(.int 4), (.int 3)])) _
    refine Goes.by (fun _ kz => XS.icmpYes X624.here hx rfl (pc0 := 275) (pc' := 283) rfl (hb hby at_275) rfl (feq (by decide : ¬ ((3 : Int32) = (4 : Int32)))).2 (by decide) (by decide) (XS.lloadN X624.here hx rfl (hb hby at_283) rfl (XS.lstore X624.here hx rfl (hb hby at_284) rfl rfl kz))) ?_
    show Goes p e below (T624.setTop (mkF m 286 #[lv p1, .second, lv p2, .second, lv p3, .second, lv p4, .second, iv p5, iv p6, rv b1, iv z1, iv z2, iv oi, iv oj, iv ch0, iv ch1, iv ch2, iv zB, iv 3, iv (((p6.toUInt32 >>> ((4 : Int32) &&& 31).toUInt32).toInt32) &&& (3 : Int32)), rv b17, iv z1, rv b614, lv p4, .second, lv p2, .second, .unset, .unset, .unset, .unset, .unset, .unset, .unset, .unset] [])) _
    refine Goes.by (fun _ kz => XS.iload X624.here hx rfl (hb hby at_286) rfl (XS.iconst X624.here hx rfl (hb hby at_288) (XS.icmpYes X624.here hx rfl (pc0 := 289) (pc' := 297) rfl (hb hby at_289) rfl (feq (by decide : ¬ ((3 : Int32) = (5 : Int32)))).2 (by decide) (by decide) kz))) ?_
    show Goes p e below (T624.setTop (mkF m 297 #[lv p1, .second, lv p2, .second, lv p3, .second, lv p4, .second, iv p5, iv p6, rv b1, iv z1, iv z2, iv oi, iv oj, iv ch0, iv ch1, iv ch2, iv zB, iv 3, iv (((p6.toUInt32 >>> ((4 : Int32) &&& 31).toUInt32).toInt32) &&& (3 : Int32)), rv b17, iv z1, rv b614, lv p4, .second, lv p2, .second, .unset, .unset, .unset, .unset, .unset, .unset, .unset, .unset] [])) _
    refine Goes.by (fun _ kz => XS.lload X624.here hx rfl (hb hby at_297) rfl (XS.lstore X624.here hx rfl (hb hby at_299) rfl rfl (XS.iload X624.here hx rfl (hb hby at_301) rfl kz))) ?_
    show Goes p e below (T624.setTop (mkF m 303 #[lv p1, .second, lv p2, .second, lv p3, .second, lv p4, .second, iv p5, iv p6, rv b1, iv z1, iv z2, iv oi, iv oj, iv ch0, iv ch1, iv ch2, iv zB, iv 3, iv (((p6.toUInt32 >>> ((4 : Int32) &&& 31).toUInt32).toInt32) &&& (3 : Int32)), rv b17, iv z1, rv b614, lv p4, .second, lv p2, .second, lv p3, .second, .unset, .unset, .unset, .unset, .unset, .unset] [(.int 3)])) _
    refine Goes.by (fun _ kz => XS.bipush X624.here hx rfl (hb hby at_303) (XS.icmpYes X624.here hx rfl (pc0 := 305) (pc' := 312) rfl (hb hby at_305) rfl (feq (by decide : ¬ ((3 : Int32) = (6 : Int32)))).2 (by decide) (by decide) (XS.lload X624.here hx rfl (hb hby at_312) rfl kz))) ?_
    show Goes p e below (T624.setTop (mkF m 314 #[lv p1, .second, lv p2, .second, lv p3, .second, lv p4, .second, iv p5, iv p6, rv b1, iv z1, iv z2, iv oi, iv oj, iv ch0, iv ch1, iv ch2, iv zB, iv 3, iv (((p6.toUInt32 >>> ((4 : Int32) &&& 31).toUInt32).toInt32) &&& (3 : Int32)), rv b17, iv z1, rv b614, lv p4, .second, lv p2, .second, lv p3, .second, .unset, .unset, .unset, .unset, .unset, .unset] [(.long p4)])) _
    refine Goes.by (fun _ kz => XS.lstore X624.here hx rfl (hb hby at_314) rfl rfl (XS.iload X624.here hx rfl (hb hby at_316) rfl (XS.bipush X624.here hx rfl (hb hby at_318) kz))) ?_
    show Goes p e below (T624.setTop (mkF m 320 #[lv p1, .second, lv p2, .second, lv p3, .second, lv p4, .second, iv p5, iv p6, rv b1, iv z1, iv z2, iv oi, iv oj, iv ch0, iv ch1, iv ch2, iv zB, iv 3, iv (((p6.toUInt32 >>> ((4 : Int32) &&& 31).toUInt32).toInt32) &&& (3 : Int32)), rv b17, iv z1, rv b614, lv p4, .second, lv p2, .second, lv p3, .second, lv p4, .second, .unset, .unset, .unset, .unset] [(.int 7), (.int 3)])) _
    refine Goes.by (fun _ kz => XS.icmpYes X624.here hx rfl (pc0 := 320) (pc' := 331) rfl (hb hby at_320) rfl (feq (by decide : ¬ ((3 : Int32) = (7 : Int32)))).2 (by decide) (by decide) (XS.aload X624.here hx rfl (hb hby at_331) rfl rfl (XS.iload X624.here hx rfl (hb hby at_333) rfl kz))) ?_
    show Goes p e below (T624.setTop (mkF m 335 #[lv p1, .second, lv p2, .second, lv p3, .second, lv p4, .second, iv p5, iv p6, rv b1, iv z1, iv z2, iv oi, iv oj, iv ch0, iv ch1, iv ch2, iv zB, iv 3, iv (((p6.toUInt32 >>> ((4 : Int32) &&& 31).toUInt32).toInt32) &&& (3 : Int32)), rv b17, iv z1, rv b614, lv p4, .second, lv p2, .second, lv p3, .second, lv p4, .second, .unset, .unset, .unset, .unset] [(.int oi), (.ref b1)])) _
    have f626 := (((f618.ext E614).other W623 ne614_b1).other W624 ne614_b1)
    obtain ⟨cl625, Ar625, Cq625, Sz625, Nn625, Hh625, Gg625⟩ := id f626
    have hin625 : ¬ (oi < 0 ∨ cl625.slots.size ≤ (oi).toNatClampNeg) := inb_of Sz625 (own_i3 h_oi)
    have hat625 : cl625.slots[(oi).toNatClampNeg]? = some (.ref (own_o w oi)) := Has.at Hh625 hin625 (by rcases h_oi with h | h | h <;> rw [h] <;> rfl)
    refine Goes.by (fun _ kz => X624.aaload hx (j := oi) (v := (.ref (own_o w oi))) (by rw [e624]; exact Ar625.1) (State.isArrayOf_alike hZ.alike Ar625.2.1) rfl Ar625.2.2 hin625 hat625 (g := (mkF m 335 #[lv p1, .second, lv p2, .second, lv p3, .second, lv p4, .second, iv p5, iv p6, rv b1, iv z1, iv z2, iv oi, iv oj, iv ch0, iv ch1, iv ch2, iv zB, iv 3, iv (((p6.toUInt32 >>> ((4 : Int32) &&& 31).toUInt32).toInt32) &&& (3 : Int32)), rv b17, iv z1, rv b614, lv p4, .second, lv p2, .second, lv p3, .second, lv p4, .second, .unset, .unset, .unset, .unset] [(.int oi), (.ref b1)])) rfl rfl (hb hby at_335) _ (XS.astore X624.here hx rfl (hb hby at_336) rfl rfl rfl kz)) ?_
    have f628 := (Exa.wr W624 (Exa.wr W623 (f615.ext E614)))
    have f629 := (Exa.wr W624 (Exa.wr W623 (f616.ext E614)))
    have f630 := (Exa.wr W624 (Exa.wr W623 (f617.ext E614)))
    have f631 := (Exa.wr W624 (Exa.wr W623 (f619.ext E614)))
    have f632 := (Exa.wr W624 (Exa.wr W623 (f620.ext E614)))
    have f633 := (((f621.ext E614).other W623 ne614_b26).other W624 ne614_b26)
    have f634 := (((f622.ext E614).other W623 ne614_t44).other W624 ne614_t44)
    obtain ⟨T627, h627, X627, e627, E627, A627, D627, -, st627⟩ := newO X624 hx hZ hown (wd hw 10 rfl) (wd hw 11 rfl) (wd hw 12 rfl) e624 (g := (mkF m 338 #[lv p1, .second, lv p2, .second, lv p3, .second, lv p4, .second, iv p5, iv p6, rv b1, iv z1, iv z2, iv oi, iv oj, iv ch0, iv ch1, iv ch2, iv zB, iv 3, iv (((p6.toUInt32 >>> ((4 : Int32) &&& 31).toUInt32).toInt32) &&& (3 : Int32)), rv b17, iv z1, rv b614, lv p4, .second, lv p2, .second, lv p3, .second, lv p4, .second, rv (own_o w oi), .unset, .unset, .unset] [])) rfl (hb hby at_338) (by decide) (by decide)
    obtain ⟨b627, g627⟩ : ∃ z, z = h624.size := ⟨_, rfl⟩
    rw [← g627] at A627 D627 st627
    have ne627__w_0_ : (w 0) ≠ b627 := Nat.ne_of_lt (Nat.lt_of_lt_of_le f628.lt (Nat.le_of_eq g627.symm))
    have ne627__w_1_ : (w 1) ≠ b627 := Nat.ne_of_lt (Nat.lt_of_lt_of_le f629.lt (Nat.le_of_eq g627.symm))
    have ne627__w_2_ : (w 2) ≠ b627 := Nat.ne_of_lt (Nat.lt_of_lt_of_le f630.lt (Nat.le_of_eq g627.symm))
    have ne627_b1 : b1 ≠ b627 := Nat.ne_of_lt (Nat.lt_of_lt_of_le f626.lt (Nat.le_of_eq g627.symm))
    have ne627_b17 : b17 ≠ b627 := Nat.ne_of_lt (Nat.lt_of_lt_of_le f631.lt (Nat.le_of_eq g627.symm))
    have ne627_b21 : b21 ≠ b627 := Nat.ne_of_lt (Nat.lt_of_lt_of_le f632.lt (Nat.le_of_eq g627.symm))
    have ne627_b26 : b26 ≠ b627 := Nat.ne_of_lt (Nat.lt_of_lt_of_le f633.lt (Nat.le_of_eq g627.symm))
    have ne627_t44 : t44 ≠ b627 := Nat.ne_of_lt (Nat.lt_of_lt_of_le f634.lt (Nat.le_of_eq g627.symm))
    have ne627_b614 : b614 ≠ b627 := Nat.ne_of_lt (Nat.lt_of_lt_of_le V624.lt (Nat.le_of_eq g627.symm))
    have g_b627 : n0 ≤ b627 := Nat.le_trans Z624 (Nat.le_of_eq g627.symm)
    have sz_b627 : h0.size ≤ b627 := Nat.le_trans K624.1 (Nat.le_of_eq g627.symm)
    have F627_visible : Fld Z h627 b627 "com/example/killdeer/killdeer/GadgetView" "visible" "Z" (.int 0) := D627 (Or.inr (wd hw 48 rfl)) (ty := .boolean) (by decide)
    have F627_appearance : Fld Z h627 b627 "com/example/killdeer/killdeer/GadgetView" "appearance" "Ljava/lang/String;" .null := D627 (Or.inr (wd hw 50 rfl)) (ty := (.object "java/lang/String")) (by decide)
    have F627_x : Fld Z h627 b627 "com/example/killdeer/killdeer/GadgetView" "x" "J" (.long 0) := D627 (Or.inr (wd hw 52 rfl)) (ty := .long) (by decide)
    have F627_y : Fld Z h627 b627 "com/example/killdeer/killdeer/GadgetView" "y" "J" (.long 0) := D627 (Or.inr (wd hw 54 rfl)) (ty := .long) (by decide)
    have F627_width : Fld Z h627 b627 "com/example/killdeer/killdeer/GadgetView" "width" "J" (.long 0) := D627 (Or.inr (wd hw 56 rfl)) (ty := .long) (by decide)
    have F627_height : Fld Z h627 b627 "com/example/killdeer/killdeer/GadgetView" "height" "J" (.long 0) := D627 (Or.inr (wd hw 58 rfl)) (ty := .long) (by decide)
    have F627_obscured : Fld Z h627 b627 "com/example/killdeer/killdeer/GadgetView" "obscured" "Lcom/example/killdeer/killdeer/GadgetView$Obscured;" .null := D627 (Or.inr (wd hw 60 rfl)) (ty := (.object "com/example/killdeer/killdeer/GadgetView$Obscured")) (by decide)
    have K627 : Keep h0 h627 [] := Keep.ext K624 E627
    have Z627 : n0 ≤ h627.size := Nat.le_trans Z624 E627.1
    refine Goes.by st627 ?_
    refine Goes.by (fun _ kz => XS.dup X627.here hx rfl (hb hby at_341) rfl rfl (XS.iload X627.here hx rfl (hb hby at_342) rfl kz)) ?_
    have f636 := (f628.ext E627)
    have f637 := (f629.ext E627)
    have f638 := (f630.ext E627)
    have f639 := (f626.ext E627)
    have f640 := (f631.ext E627)
    have f641 := (f632.ext E627)
    have f642 := (f633.ext E627)
    have f643 := (f634.ext E627)
    have f644 := (V624.ext E627)
    obtain ⟨T635, h635, X635, e635, E635, A635, D635, -, st635⟩ := newO X627 hx hZ hown (wd hw 13 rfl) (wd hw 14 rfl) (wd hw 15 rfl) e627 (g := (mkF m 344 #[lv p1, .second, lv p2, .second, lv p3, .second, lv p4, .second, iv p5, iv p6, rv b1, iv z1, iv z2, iv oi, iv oj, iv ch0, iv ch1, iv ch2, iv zB, iv 3, iv (((p6.toUInt32 >>> ((4 : Int32) &&& 31).toUInt32).toInt32) &&& (3 : Int32)), rv b17, iv z1, rv b614, lv p4, .second, lv p2, .second, lv p3, .second, lv p4, .second, rv (own_o w oi), .unset, .unset, .unset] [(.int z1), (.ref b627), (.ref b627)])) rfl (hb hby at_344) (by decide) (by decide)
    obtain ⟨b635, g635⟩ : ∃ z, z = h627.size := ⟨_, rfl⟩
    rw [← g635] at A635 D635 st635
    have ne635__w_0_ : (w 0) ≠ b635 := Nat.ne_of_lt (Nat.lt_of_lt_of_le f636.lt (Nat.le_of_eq g635.symm))
    have ne635__w_1_ : (w 1) ≠ b635 := Nat.ne_of_lt (Nat.lt_of_lt_of_le f637.lt (Nat.le_of_eq g635.symm))
    have ne635__w_2_ : (w 2) ≠ b635 := Nat.ne_of_lt (Nat.lt_of_lt_of_le f638.lt (Nat.le_of_eq g635.symm))
    have ne635_b1 : b1 ≠ b635 := Nat.ne_of_lt (Nat.lt_of_lt_of_le f639.lt (Nat.le_of_eq g635.symm))
    have ne635_b17 : b17 ≠ b635 := Nat.ne_of_lt (Nat.lt_of_lt_of_le f640.lt (Nat.le_of_eq g635.symm))
    have ne635_b21 : b21 ≠ b635 := Nat.ne_of_lt (Nat.lt_of_lt_of_le f641.lt (Nat.le_of_eq g635.symm))
    have ne635_b26 : b26 ≠ b635 := Nat.ne_of_lt (Nat.lt_of_lt_of_le f642.lt (Nat.le_of_eq g635.symm))
    have ne635_t44 : t44 ≠ b635 := Nat.ne_of_lt (Nat.lt_of_lt_of_le f643.lt (Nat.le_of_eq g635.symm))
    have ne635_b614 : b614 ≠ b635 := Nat.ne_of_lt (Nat.lt_of_lt_of_le f644.lt (Nat.le_of_eq g635.symm))
    have ne635_b627 : b627 ≠ b635 := Nat.ne_of_lt (Nat.lt_of_lt_of_le A627.lt (Nat.le_of_eq g635.symm))
    have g_b635 : n0 ≤ b635 := Nat.le_trans Z627 (Nat.le_of_eq g635.symm)
    have sz_b635 : h0.size ≤ b635 := Nat.le_trans K627.1 (Nat.le_of_eq g635.symm)
    have F635_coder : Fld Z h635 b635 "java/lang/String" "coder" "B" (.int 0) := D635 (Or.inr (wd hw 40 rfl)) (ty := .byte) (by decide)
    have F635_value : Fld Z h635 b635 "java/lang/String" "value" "[B" .null := D635 (Or.inr (wd hw 42 rfl)) (ty := (.array .byte)) (by decide)
    have K635 : Keep h0 h635 [] := Keep.ext K627 E635
    have Z635 : n0 ≤ h635.size := Nat.le_trans Z627 E635.1
    refine Goes.by st635 ?_
    refine Goes.by (fun _ kz => XS.dup X635.here hx rfl (hb hby at_347) rfl rfl (XS.aload X635.here hx rfl (hb hby at_348) rfl rfl kz)) ?_
    show Goes p e below (T635.setTop (mkF m 350 #[lv p1, .second, lv p2, .second, lv p3, .second, lv p4, .second, iv p5, iv p6, rv b1, iv z1, iv z2, iv oi, iv oj, iv ch0, iv ch1, iv ch2, iv zB, iv 3, iv (((p6.toUInt32 >>> ((4 : Int32) &&& 31).toUInt32).toInt32) &&& (3 : Int32)), rv b17, iv z1, rv b614, lv p4, .second, lv p2, .second, lv p3, .second, lv p4, .second, rv (own_o w oi), .unset, .unset, .unset] [(.ref b614), (.ref b635), (.ref b635), (.int z1), (.ref b627), (.ref b627)])) _
    have f645 := (f644.ext E635)
    have f646 := (((Sta.wr W624 (Sta.wr W623 ((own_staKeep (own_staKeep f37 Kq44 (allS (own_nsE f34) all0)) Kq81 (allS (own_nsE f73) all0)).ext E614))).ext E627).ext E635)
    have f647 := (f636.ext E635)
    have f648 := (f637.ext E635)
    have f649 := (f638.ext E635)
    have f650 := (f639.ext E635)
    have f651 := (f640.ext E635)
    have f652 := (f641.ext E635)
    have f653 := (f642.ext E635)
    have f654 := (f643.ext E635)
    have f655 := (A627.ext E635)
    have hp656 : ∀ c ∈ ([ch0, ch1] : List Int32), ¬ c < 0 ∧ ¬ (255 : Int32) < c := by
      intro c hc; simp only [List.mem_cons, List.not_mem_nil, or_false] at hc
      rcases hc with hc | hc
      · rw [hc]; exact hb_ch0
      · rw [hc]; exact hb_ch1
    have hcd656 : StrChars.Road.CodA ([ch0, ch1] : List Int32) 0 (2 : Int32) ((([ch0, ch1] : List Int32).map (fun c => c.toInt8.toInt32)).map Value.int) := StrChars.Road.codOf (n := 2) rfl (fun c hc => (hp656 c hc).2)
    have hbd656 := own_up _ hp656
    obtain ⟨_, _, ⟨T657, L657, k657, n657⟩, -, X657, ⟨Lc657, hQ657, l657, y657, z657⟩, st657⟩ := X635.specialBack hx (y := (⟨"java/lang/String", "<init>", "([C)V"⟩ : MethodName)) rfl hown (mvT hZ (wd hw 17 rfl)) (mvT hZ (wd hw 18 rfl)) (mvT hZ (wd hw 19 rfl)) (by decide) (StrChars.Road.backV (W := 4) hZ hws (kI := 4) (wd hw 14 rfl) (cs := ([ch0, ch1] : List Int32)) (bs := (([ch0, ch1] : List Int32).map (fun c => c.toInt8.toInt32))) (n := 2) g_b635 Z635 A635 F635_value F635_coder f645 f646 hzc rfl rfl (by decide) (by decide) hp656 rfl (by decide) (by decide)) (g := (mkF m 350 #[lv p1, .second, lv p2, .second, lv p3, .second, lv p4, .second, iv p5, iv p6, rv b1, iv z1, iv z2, iv oi, iv oj, iv ch0, iv ch1, iv ch2, iv zB, iv 3, iv (((p6.toUInt32 >>> ((4 : Int32) &&& 31).toUInt32).toInt32) &&& (3 : Int32)), rv b17, iv z1, rv b614, lv p4, .second, lv p2, .second, lv p3, .second, lv p4, .second, rv (own_o w oi), .unset, .unset, .unset] [(.ref b614), (.ref b635), (.ref b635), (.int z1), (.ref b627), (.ref b627)])) rfl (by rw [hml]; rfl) (Steps.refl _) (a := b635) (argsL := [(.ref b614)]) (rest := [(.ref b635), (.int z1), (.ref b627), (.ref b627)]) (lenOf pd0 rfl) rfl (by show 2 * 0 + _ ≤ _; exact Nat.le_of_eq rfl) (hb hby at_350) (fun _ _ => ⟨rfl, e635, (by decide : 8 + 1 ≤ _), (by decide : 31 + 2 ≤ _)⟩)
    dsimp only [Pt.U, Pt.locs, Pt.cells, Pt.slots] at X657 l657 y657 z657 st657 hQ657
    subst l657 y657 z657
    obtain ⟨rfl, Nq657, Kq657, gE657, gC657, t657, kb657, u1_657, u2_657, u3_657, gV657, gA657⟩ := hQ657
    have K657 : Keep h0 T657.heap [] := Keep.trans K635 Kq657 (allS (Or.inr sz_b635) all0)
    have Z657 : n0 ≤ T657.heap.size := Nat.le_trans Z635 Kq657.1
    have net657__w_0_ : (w 0) ≠ t657 := Nat.ne_of_lt (Nat.lt_of_lt_of_le f647.lt u2_657)
    have net657__w_1_ : (w 1) ≠ t657 := Nat.ne_of_lt (Nat.lt_of_lt_of_le f648.lt u2_657)
    have net657__w_2_ : (w 2) ≠ t657 := Nat.ne_of_lt (Nat.lt_of_lt_of_le f649.lt u2_657)
    have net657_b1 : b1 ≠ t657 := Nat.ne_of_lt (Nat.lt_of_lt_of_le f650.lt u2_657)
    have net657_b17 : b17 ≠ t657 := Nat.ne_of_lt (Nat.lt_of_lt_of_le f651.lt u2_657)
    have net657_b21 : b21 ≠ t657 := Nat.ne_of_lt (Nat.lt_of_lt_of_le f652.lt u2_657)
    have net657_b26 : b26 ≠ t657 := Nat.ne_of_lt (Nat.lt_of_lt_of_le f653.lt u2_657)
    have net657_t44 : t44 ≠ t657 := Nat.ne_of_lt (Nat.lt_of_lt_of_le f654.lt u2_657)
    have net657_b614 : b614 ≠ t657 := Nat.ne_of_lt (Nat.lt_of_lt_of_le f645.lt u2_657)
    have net657_b627 : b627 ≠ t657 := Nat.ne_of_lt (Nat.lt_of_lt_of_le f655.lt u2_657)
    have net657_b635 : b635 ≠ t657 := Nat.ne_of_lt (Nat.lt_of_lt_of_le A635.lt u2_657)
    have g_t657 : n0 ≤ t657 := Nat.le_trans Z635 u2_657
    have sz_t657 : h0.size ≤ t657 := Nat.le_trans K635.1 u2_657
    have N657 := Fr.app N624 Nq657
    refine Goes.tr st657 ?_
    refine Goes.by (fun _ kz => XS.lload X657.here hx rfl (hb hby at_353) rfl (XS.lload X657.here hx rfl (hb hby at_355) rfl (XS.lload X657.here hx rfl (hb hby at_357) rfl kz))) ?_
    show Goes p e below (T657.setTop (mkF m 359 #[lv p1, .second, lv p2, .second, lv p3, .second, lv p4, .second, iv p5, iv p6, rv b1, iv z1, iv z2, iv oi, iv oj, iv ch0, iv ch1, iv ch2, iv zB, iv 3, iv (((p6.toUInt32 >>> ((4 : Int32) &&& 31).toUInt32).toInt32) &&& (3 : Int32)), rv b17, iv z1, rv b614, lv p4, .second, lv p2, .second, lv p3, .second, lv p4, .second, rv (own_o w oi), .unset, .unset, .unset] [(.long p3), (.long p2), (.long p4), (.ref b635), (.int z1), (.ref b627), (.ref b627)])) _
    refine Goes.by (fun _ kz => XS.lload X657.here hx rfl (hb hby at_359) rfl (XS.aload X657.here hx rfl (hb hby at_361) rfl rfl kz)) ?_
    have f658 := (f655.keep Kq657)
    have f659 := ((F627_visible.ext E635).keep Kq657 (ninS ne635_b627 nin0))
    have f660 := ((F627_appearance.ext E635).keep Kq657 (ninS ne635_b627 nin0))
    have f661 := ((F627_x.ext E635).keep Kq657 (ninS ne635_b627 nin0))
    have f662 := ((F627_y.ext E635).keep Kq657 (ninS ne635_b627 nin0))
    have f663 := ((F627_width.ext E635).keep Kq657 (ninS ne635_b627 nin0))
    have f664 := ((F627_height.ext E635).keep Kq657 (ninS ne635_b627 nin0))
    have f665 := ((F627_obscured.ext E635).keep Kq657 (ninS ne635_b627 nin0))
    obtain ⟨_, _, ⟨T666, L666, k666, n666⟩, -, X666, ⟨Lc666, hQ666, l666, y666, z666⟩, st666⟩ := X657.specialBack hx (y := (⟨"com/example/killdeer/killdeer/GadgetView", "<init>", "(ZLjava/lang/String;JJJJLcom/example/killdeer/killdeer/GadgetView$Obscured;)V"⟩ : MethodName)) rfl hown (mvT hZ (wd hw 43 rfl)) (mvT hZ (wd hw 44 rfl)) (mvT hZ (wd hw 45 rfl)) (by decide) (backOf (W := 1) (r7_0 l Z a0 hw [] T657.heap n0 Z657 b627 z1 b635 p4 p2 p3 p4 (own_o w oi) f658 f659 f660 f661 f662 f663 f664 f665 g_b627) hZ (wd hw 45 rfl) (wd hw 12 rfl) (by decide) (by decide)) (g := (mkF m 363 #[lv p1, .second, lv p2, .second, lv p3, .second, lv p4, .second, iv p5, iv p6, rv b1, iv z1, iv z2, iv oi, iv oj, iv ch0, iv ch1, iv ch2, iv zB, iv 3, iv (((p6.toUInt32 >>> ((4 : Int32) &&& 31).toUInt32).toInt32) &&& (3 : Int32)), rv b17, iv z1, rv b614, lv p4, .second, lv p2, .second, lv p3, .second, lv p4, .second, rv (own_o w oi), .unset, .unset, .unset] [(.ref (own_o w oi)), (.long p4), (.long p3), (.long p2), (.long p4), (.ref b635), (.int z1), (.ref b627), (.ref b627)])) rfl (by rw [hml]; rfl) (Steps.refl _) (a := b627) (argsL := [(.int z1), (.ref b635), (.long p4), (.long p2), (.long p3), (.long p4), (.ref (own_o w oi))]) (rest := [(.ref b627)]) (lenOf pd1 rfl) rfl (by show 2 * 0 + _ ≤ _; exact Nat.le_of_eq rfl) (hb hby at_363) (fun _ _ => ⟨rfl, rfl, (by decide : 9 + 0 ≤ _), (by decide : 33 + 0 ≤ _)⟩)
    dsimp only [Pt.U, Pt.locs, Pt.cells, Pt.slots] at X666 l666 y666 z666 st666 hQ666
    subst l666 y666 z666
    obtain ⟨rfl, Nq666, Kq666, fq666_0, fq666_1, fq666_2, fq666_3, fq666_4, fq666_5, fq666_6⟩ := hQ666
    have K666 : Keep h0 T666.heap [] := Keep.trans K657 Kq666 (allS (Or.inr sz_b627) all0)
    have Z666 : n0 ≤ T666.heap.size := Nat.le_trans Z657 Kq666.1
    have N666 := Fr.app N657 Nq666
    refine Goes.tr st666 ?_
    refine Goes.by (fun _ kz => XS.astore X666.here hx rfl (hb hby at_366) rfl rfl rfl (XS.iload X666.here hx rfl (hb hby at_368) rfl (XS.ifYes X666.here hx rfl (pc0 := 370) (pc' := 379) rfl (hb hby at_370) rfl ((if0 _ _).trans (feq (by decide : ¬ ((3 : Int32) = (0 : Int32)))).2) (by decide) (by decide) kz))) ?_
    show Goes p e below (T666.setTop (mkF m 379 #[lv p1, .second, lv p2, .second, lv p3, .second, lv p4, .second, iv p5, iv p6, rv b1, iv z1, iv z2, iv oi, iv oj, iv ch0, iv ch1, iv ch2, iv zB, iv 3, iv (((p6.toUInt32 >>> ((4 : Int32) &&& 31).toUInt32).toInt32) &&& (3 : Int32)), rv b17, iv z1, rv b614, lv p4, .second, lv p2, .second, lv p3, .second, lv p4, .second, rv (own_o w oi), rv b627, .unset, .unset] [])) _
    refine Goes.by (fun _ kz => XS.iload X666.here hx rfl (hb hby at_379) rfl (XS.iconst X666.here hx rfl (hb hby at_381) (XS.icmpYes X666.here hx rfl (pc0 := 382) (pc' := 402) rfl (hb hby at_382) rfl (feq (by decide : ¬ ((3 : Int32) = (1 : Int32)))).2 (by decide) (by decide) kz))) ?_
    show Goes p e below (T666.setTop (mkF m 402 #[lv p1, .second, lv p2, .second, lv p3, .second, lv p4, .second, iv p5, iv p6, rv b1, iv z1, iv z2, iv oi, iv oj, iv ch0, iv ch1, iv ch2, iv zB, iv 3, iv (((p6.toUInt32 >>> ((4 : Int32) &&& 31).toUInt32).toInt32) &&& (3 : Int32)), rv b17, iv z1, rv b614, lv p4, .second, lv p2, .second, lv p3, .second, lv p4, .second, rv (own_o w oi), rv b627, .unset, .unset] [])) _
    refine Goes.by (fun _ kz => XS.iload X666.here hx rfl (hb hby at_402) rfl (XS.iconst X666.here hx rfl (hb hby at_404) (XS.icmpYes X666.here hx rfl (pc0 := 405) (pc' := 430) rfl (hb hby at_405) rfl (feq (by decide : ¬ ((3 : Int32) = (2 : Int32)))).2 (by decide) (by decide) kz))) ?_
    show Goes p e below (T666.setTop (mkF m 430 #[lv p1, .second, lv p2, .second, lv p3, .second, lv p4, .second, iv p5, iv p6, rv b1, iv z1, iv z2, iv oi, iv oj, iv ch0, iv ch1, iv ch2, iv zB, iv 3, iv (((p6.toUInt32 >>> ((4 : Int32) &&& 31).toUInt32).toInt32) &&& (3 : Int32)), rv b17, iv z1, rv b614, lv p4, .second, lv p2, .second, lv p3, .second, lv p4, .second, rv (own_o w oi), rv b627, .unset, .unset] [])) _
    refine Goes.by (fun _ kz => XS.iload X666.here hx rfl (hb hby at_430) rfl (XS.iconst X666.here hx rfl (hb hby at_432) (XS.icmpNo X666.here hx rfl (hb hby at_433) rfl (teq (by decide : (3 : Int32) = (3 : Int32))).2 kz))) ?_
    show Goes p e below (T666.setTop (mkF m 436 #[lv p1, .second, lv p2, .second, lv p3, .second, lv p4, .second, iv p5, iv p6, rv b1, iv z1, iv z2, iv oi, iv oj, iv ch0, iv ch1, iv ch2, iv zB, iv 3, iv (((p6.toUInt32 >>> ((4 : Int32) &&& 31).toUInt32).toInt32) &&& (3 : Int32)), rv b17, iv z1, rv b614, lv p4, .second, lv p2, .second, lv p3, .second, lv p4, .second, rv (own_o w oi), rv b627, .unset, .unset] [])) _
    refine Goes.by (fun _ kz => XS.lloadN X666.here hx rfl (hb hby at_436) rfl (XS.lload X666.here hx rfl (hb hby at_437) rfl (XS.lcmp X666.here hx rfl (hb hby at_439) rfl kz))) ?_
    show Goes p e below (T666.setTop (mkF m 440 #[lv p1, .second, lv p2, .second, lv p3, .second, lv p4, .second, iv p5, iv p6, rv b1, iv z1, iv z2, iv oi, iv oj, iv ch0, iv ch1, iv ch2, iv zB, iv 3, iv (((p6.toUInt32 >>> ((4 : Int32) &&& 31).toUInt32).toInt32) &&& (3 : Int32)), rv b17, iv z1, rv b614, lv p4, .second, lv p2, .second, lv p3, .second, lv p4, .second, rv (own_o w oi), rv b627, .unset, .unset] [(.int (lcmpW p1 p4))])) _
    refine Goes.join (fun ze : Int32 => (ze = 1 ∧ p1 = p4) ∨ (ze = 0 ∧ ¬ p1 = p4)) (fun ze => T666.setTop (mkF m 448 #[lv p1, .second, lv p2, .second, lv p3, .second, lv p4, .second, iv p5, iv p6, rv b1, iv z1, iv z2, iv oi, iv oj, iv ch0, iv ch1, iv ch2, iv zB, iv 3, iv (((p6.toUInt32 >>> ((4 : Int32) &&& 31).toUInt32).toInt32) &&& (3 : Int32)), rv b17, iv z1, rv b614, lv p4, .second, lv p2, .second, lv p3, .second, lv p4, .second, rv (own_o w oi), rv b627, .unset, .unset] [(.int ze)])) (fun J => ?_) (fun ze hze => ?_)
    · show Goes p e below (T666.setTop (mkF m 440 #[lv p1, .second, lv p2, .second, lv p3, .second, lv p4, .second, iv p5, iv p6, rv b1, iv z1, iv z2, iv oi, iv oj, iv ch0, iv ch1, iv ch2, iv zB, iv 3, iv (((p6.toUInt32 >>> ((4 : Int32) &&& 31).toUInt32).toInt32) &&& (3 : Int32)), rv b17, iv z1, rv b614, lv p4, .second, lv p2, .second, lv p3, .second, lv p4, .second, rv (own_o w oi), rv b627, .unset, .unset] [(.int (lcmpW p1 p4))])) _
      by_cases hc667 : p1 = p4
      · refine Goes.by (fun _ kz => XS.ifNo X666.here hx rfl (hb hby at_440) rfl ((if0 _ _).trans (teq (own_eq hc667)).2) (XS.iconst X666.here hx rfl (hb hby at_443) (XS.goto X666.here hx rfl (pc0 := 444) (pc' := 448) rfl (hb hby at_444) (by decide) (by decide) kz))) ?_
        show Goes p e below (T666.setTop (mkF m 448 #[lv p1, .second, lv p2, .second, lv p3, .second, lv p4, .second, iv p5, iv p6, rv b1, iv z1, iv z2, iv oi, iv oj, iv ch0, iv ch1, iv ch2, iv zB, iv 3, iv (((p6.toUInt32 >>> ((4 : Int32) &&& 31).toUInt32).toInt32) &&& (3 : Int32)), rv b17, iv z1, rv b614, lv p4, .second, lv p2, .second, lv p3, .second, lv p4, .second, rv (own_o w oi), rv b627, .unset, .unset] [(.int 1)])) _
        exact J (1 : Int32) (Or.inl ⟨rfl, hc667⟩)
      · refine Goes.by (fun _ kz => XS.ifYes X666.here hx rfl (pc0 := 440) (pc' := 447) rfl (hb hby at_440) rfl ((if0 _ _).trans (feq (own_neq hc667)).2) (by decide) (by decide) (XS.iconst X666.here hx rfl (hb hby at_447) kz)) ?_
        show Goes p e below (T666.setTop (mkF m 448 #[lv p1, .second, lv p2, .second, lv p3, .second, lv p4, .second, iv p5, iv p6, rv b1, iv z1, iv z2, iv oi, iv oj, iv ch0, iv ch1, iv ch2, iv zB, iv 3, iv (((p6.toUInt32 >>> ((4 : Int32) &&& 31).toUInt32).toInt32) &&& (3 : Int32)), rv b17, iv z1, rv b614, lv p4, .second, lv p2, .second, lv p3, .second, lv p4, .second, rv (own_o w oi), rv b627, .unset, .unset] [(.int 0)])) _
        exact J (0 : Int32) (Or.inr ⟨rfl, hc667⟩)
    show Goes p e below (T666.setTop (mkF m 448 #[lv p1, .second, lv p2, .second, lv p3, .second, lv p4, .second, iv p5, iv p6, rv b1, iv z1, iv z2, iv oi, iv oj, iv ch0, iv ch1, iv ch2, iv zB, iv 3, iv (((p6.toUInt32 >>> ((4 : Int32) &&& 31).toUInt32).toInt32) &&& (3 : Int32)), rv b17, iv z1, rv b614, lv p4, .second, lv p2, .second, lv p3, .second, lv p4, .second, rv (own_o w oi), rv b627, .unset, .unset] [(.int ze)])) _
    refine Goes.by (fun _ kz => XS.istore X666.here hx rfl (hb hby at_448) rfl rfl (XS.goto X666.here hx rfl (pc0 := 450) (pc' := 538) rfl (hb hby at_450) (by decide) (by decide) kz)) ?_
    show Goes p e below (T666.setTop (mkF m 538 #[lv p1, .second, lv p2, .second, lv p3, .second, lv p4, .second, iv p5, iv p6, rv b1, iv z1, iv z2, iv oi, iv oj, iv ch0, iv ch1, iv ch2, iv zB, iv 3, iv (((p6.toUInt32 >>> ((4 : Int32) &&& 31).toUInt32).toInt32) &&& (3 : Int32)), rv b17, iv z1, rv b614, lv p4, .second, lv p2, .second, lv p3, .second, lv p4, .second, rv (own_o w oi), rv b627, iv ze, .unset] [])) _
    have hsot := own_k (((p6.toUInt32 >>> ((4 : Int32) &&& 31).toUInt32).toInt32))
    obtain ⟨ot, hot⟩ : ∃ z, z = (((p6.toUInt32 >>> ((4 : Int32) &&& 31).toUInt32).toInt32) &&& (3 : Int32)) := ⟨_, rfl⟩
    rw [← hot] at hsot ⊢
    rcases hsot with rfl | rfl | rfl | rfl
    · show Goes p e below (T666.setTop (mkF m 538 #[lv p1, .second, lv p2, .second, lv p3, .second, lv p4, .second, iv p5, iv p6, rv b1, iv z1, iv z2, iv oi, iv oj, iv ch0, iv ch1, iv ch2, iv zB, iv 3, iv 0, rv b17, iv z1, rv b614, lv p4, .second, lv p2, .second, lv p3, .second, lv p4, .second, rv (own_o w oi), rv b627, iv ze, .unset] [])) _
      refine Goes.by (fun _ kz => XS.iload X666.here hx rfl (hb hby at_538) rfl (XS.iconst X666.here hx rfl (hb hby at_540) (XS.icmpYes X666.here hx rfl (pc0 := 541) (pc' := 552) rfl (hb hby at_541) rfl (feq (by decide : ¬ ((0 : Int32) = (1 : Int32)))).2 (by decide) (by decide) kz))) ?_
      show Goes p e below (T666.setTop (mkF m 552 #[lv p1, .second, lv p2, .second, lv p3, .second, lv p4, .second, iv p5, iv p6, rv b1, iv z1, iv z2, iv oi, iv oj, iv ch0, iv ch1, iv ch2, iv zB, iv 3, iv 0, rv b17, iv z1, rv b614, lv p4, .second, lv p2, .second, lv p3, .second, lv p4, .second, rv (own_o w oi), rv b627, iv ze, .unset] [])) _
      refine Goes.by (fun _ kz => XS.iload X666.here hx rfl (hb hby at_552) rfl (XS.iconst X666.here hx rfl (hb hby at_554) (XS.icmpYes X666.here hx rfl (pc0 := 555) (pc' := 573) rfl (hb hby at_555) rfl (feq (by decide : ¬ ((0 : Int32) = (2 : Int32)))).2 (by decide) (by decide) kz))) ?_
      show Goes p e below (T666.setTop (mkF m 573 #[lv p1, .second, lv p2, .second, lv p3, .second, lv p4, .second, iv p5, iv p6, rv b1, iv z1, iv z2, iv oi, iv oj, iv ch0, iv ch1, iv ch2, iv zB, iv 3, iv 0, rv b17, iv z1, rv b614, lv p4, .second, lv p2, .second, lv p3, .second, lv p4, .second, rv (own_o w oi), rv b627, iv ze, .unset] [])) _
      refine Goes.by (fun _ kz => XS.iload X666.here hx rfl (hb hby at_573) rfl (XS.iconst X666.here hx rfl (hb hby at_575) (XS.icmpYes X666.here hx rfl (pc0 := 576) (pc' := 612) rfl (hb hby at_576) rfl (feq (by decide : ¬ ((0 : Int32) = (3 : Int32)))).2 (by decide) (by decide) kz))) ?_
      show Goes p e below (T666.setTop (mkF m 612 #[lv p1, .second, lv p2, .second, lv p3, .second, lv p4, .second, iv p5, iv p6, rv b1, iv z1, iv z2, iv oi, iv oj, iv ch0, iv ch1, iv ch2, iv zB, iv 3, iv 0, rv b17, iv z1, rv b614, lv p4, .second, lv p2, .second, lv p3, .second, lv p4, .second, rv (own_o w oi), rv b627, iv ze, .unset] [])) _
      refine Goes.by (fun _ kz => XS.aload X666.here hx rfl (hb hby at_612) rfl rfl (XS.aload X666.here hx rfl (hb hby at_614) rfl rfl kz)) ?_
      have f668 := ((f651.keep Kq657).keep Kq666)
      have f669 := (((((Fld.other W624 (Fld.other W623 (fq81_0.ext E614) (Or.inl ne614_b17)) (Or.inl ne614_b17)).ext E627).ext E635).keep Kq657 (ninS ne635_b17 nin0)).keep Kq666 (ninS ne627_b17 nin0))
      have f670 := (((((Fld.other W624 (Fld.other W623 (fq81_1.ext E614) (Or.inl ne614_b17)) (Or.inl ne614_b17)).ext E627).ext E635).keep Kq657 (ninS ne635_b17 nin0)).keep Kq666 (ninS ne627_b17 nin0))
      have f671 := (((((Fld.other W624 (Fld.other W623 (fq81_2.ext E614) (Or.inl ne614_b17)) (Or.inl ne614_b17)).ext E627).ext E635).keep Kq657 (ninS ne635_b17 nin0)).keep Kq666 (ninS ne627_b17 nin0))
      have f672 := (((((Fld.other W624 (Fld.other W623 (fq81_3.ext E614) (Or.inl ne614_b17)) (Or.inl ne614_b17)).ext E627).ext E635).keep Kq657 (ninS ne635_b17 nin0)).keep Kq666 (ninS ne627_b17 nin0))
      have f673 := (((((Fld.other W624 (Fld.other W623 (fq81_4.ext E614) (Or.inl ne614_b17)) (Or.inl ne614_b17)).ext E627).ext E635).keep Kq657 (ninS ne635_b17 nin0)).keep Kq666 (ninS ne627_b17 nin0))
      have f674 := (((((Fld.other W624 (Fld.other W623 (fq81_5.ext E614) (Or.inl ne614_b17)) (Or.inl ne614_b17)).ext E627).ext E635).keep Kq657 (ninS ne635_b17 nin0)).keep Kq666 (ninS ne627_b17 nin0))
      have f675 := (((((Fld.other W624 (Fld.other W623 (fq81_6.ext E614) (Or.inl ne614_b17)) (Or.inl ne614_b17)).ext E627).ext E635).keep Kq657 (ninS ne635_b17 nin0)).keep Kq666 (ninS ne627_b17 nin0))
      have f676 := ((f652.keep Kq657).keep Kq666)
      have f677 := (((((Fld.other W624 (Fld.other W623 ((gV44.keep Kq81 (ninS (Ne.symm ne21_b17) nin0)).ext E614) (Or.inl ne614_b21)) (Or.inl ne614_b21)).ext E627).ext E635).keep Kq657 (ninS ne635_b21 nin0)).keep Kq666 (ninS ne627_b21 nin0))
      have f678 := (((((Fld.other W624 (Fld.other W623 ((gC44.keep Kq81 (ninS (Ne.symm ne21_b17) nin0)).ext E614) (Or.inl ne614_b21)) (Or.inl ne614_b21)).ext E627).ext E635).keep Kq657 (ninS ne635_b21 nin0)).keep Kq666 (ninS ne627_b21 nin0))
      have f679 := ((f654.keep Kq657 (ninS ne635_t44 nin0)).keep Kq666 (ninS ne627_t44 nin0))
      have f680 := (f658.keep Kq666)
      have f681 := ((A635.keep Kq657).keep Kq666)
      have f682 := (gV657.keep Kq666 (ninS (Ne.symm ne635_b627) nin0))
      have f683 := (gC657.keep Kq666 (ninS (Ne.symm ne635_b627) nin0))
      have f684 := (gA657.keep Kq666 (ninS (Ne.symm net657_b627) nin0))
      have f685 := (own_staKeep (own_staKeep f646 Kq657 (allS (own_nsE A635) all0)) Kq666 (allS (own_nsE f658) all0))
      obtain ⟨cq686, kq686, q686a, q686b, q686c⟩ := isOf hZ rfl f668
      obtain ⟨_, _, ⟨T686, L686, k686, n686⟩, -, X686, ⟨Lc686, hQ686, l686, y686, z686⟩, st686⟩ := X666.virtualBack hx (y := (⟨"com/example/killdeer/killdeer/GadgetView", "equals", "(Ljava/lang/Object;)Z"⟩ : MethodName)) (z := (⟨"com/example/killdeer/killdeer/GadgetView", "equals", "(Ljava/lang/Object;)Z"⟩ : MethodName)) hown (mvT hZ (wd hw 61 rfl)) (mvT hZ (wd hw 62 rfl)) (notFace_of_selects (args := #[]) (mvT hZ (wd hw 64 rfl))) (mvT hZ (wd hw 64 rfl)) (mvT hZ (wd hw 63 rfl)) (by decide) (backOf (W := 0) (r8_0 l Z a0 hw [] T666.heap n0 Z666 b17 b627 (nar .boolean z1) (nar .boolean z1) b21 b635 t44 t657 kb44 kb657 ([ch0, ch1] : List Int32) ([ch0, ch1] : List Int32) (2 : Int32) (2 : Int32) ((([ch0, ch1] : List Int32).map (fun c => c.toInt8.toInt32)).map Value.int) ((([ch0, ch1] : List Int32).map (fun c => c.toInt8.toInt32)).map Value.int) p1 p4 p2 p2 p3 p3 p4 p4 (own_o w oi) (own_o w oi) zc f668 f669 f670 f671 f672 f673 f674 f675 f676 f677 f678 f679 hcd43 hbd43 (by simp) f680 fq666_0 fq666_1 fq666_2 fq666_3 fq666_4 fq666_5 fq666_6 f681 f682 f683 f684 hcd656 hbd656 (by simp) f685 hzc ne627_b17) hZ (wd hw 65 rfl) (wd hw 12 rfl) (by decide) (by decide)) q686a q686c (g := (mkF m 616 #[lv p1, .second, lv p2, .second, lv p3, .second, lv p4, .second, iv p5, iv p6, rv b1, iv z1, iv z2, iv oi, iv oj, iv ch0, iv ch1, iv ch2, iv zB, iv 3, iv 0, rv b17, iv z1, rv b614, lv p4, .second, lv p2, .second, lv p3, .second, lv p4, .second, rv (own_o w oi), rv b627, iv ze, .unset] [(.ref b627), (.ref b17)])) rfl (by rw [hml]; rfl) (Steps.refl _) (argsL := [(.ref b627)]) (rest := []) (lenOf pd2 rfl) rfl (by show 2 * 0 + _ ≤ _; exact Nat.le_of_eq rfl) (hb hby at_616) (fun _ _ => ⟨rfl, rfl, (by decide : 9 + 0 ≤ _), (by decide : 33 + 0 ≤ _)⟩)
      dsimp only [Pt.U, Pt.locs, Pt.cells, Pt.slots] at X686 l686 y686 z686 st686 hQ686
      subst l686 y686 z686
      rcases hQ686 with hQ686 | hQ686
      · obtain ⟨rfl, Nq686, e686, hS686⟩ := hQ686
        have N686 := Fr.app N666 Nq686
        refine Goes.tr st686 ?_
        refine Goes.by (fun _ kz => XS.iload X686.here hx rfl (hb hby at_619) rfl kz) ?_
        show Goes p e below (T686.setTop (mkF m 621 #[lv p1, .second, lv p2, .second, lv p3, .second, lv p4, .second, iv p5, iv p6, rv b1, iv z1, iv z2, iv oi, iv oj, iv ch0, iv ch1, iv ch2, iv zB, iv 3, iv 0, rv b17, iv z1, rv b614, lv p4, .second, lv p2, .second, lv p3, .second, lv p4, .second, rv (own_o w oi), rv b627, iv ze, .unset] [(.int ze), (.int 1)])) _
        by_cases hc687 : (1 : Int32) = ze
        · refine Goes.by (fun _ kz => XS.icmpNo X686.here hx rfl (hb hby at_621) rfl (teq hc687).2 (XS.aload X686.here hx rfl (hb hby at_624) rfl rfl (XS.aload X686.here hx rfl (hb hby at_626) rfl rfl kz))) ?_
          obtain ⟨cq688, kq688, q688a, q688b, q688c⟩ := isOf hZ e686 f680
          obtain ⟨_, _, ⟨T688, L688, k688, n688⟩, -, X688, ⟨Lc688, hQ688, l688, y688, z688⟩, st688⟩ := X686.virtualBack hx (y := (⟨"com/example/killdeer/killdeer/GadgetView", "equals", "(Ljava/lang/Object;)Z"⟩ : MethodName)) (z := (⟨"com/example/killdeer/killdeer/GadgetView", "equals", "(Ljava/lang/Object;)Z"⟩ : MethodName)) hown (mvT hZ (wd hw 61 rfl)) (mvT hZ (wd hw 62 rfl)) (notFace_of_selects (args := #[]) (mvT hZ (wd hw 64 rfl))) (mvT hZ (wd hw 64 rfl)) (mvT hZ (wd hw 63 rfl)) (by decide) (backOf (W := 0) (r8_0 l Z a0 hw [] T666.heap n0 Z666 b627 b17 (nar .boolean z1) (nar .boolean z1) b635 b21 t657 t44 kb657 kb44 ([ch0, ch1] : List Int32) ([ch0, ch1] : List Int32) (2 : Int32) (2 : Int32) ((([ch0, ch1] : List Int32).map (fun c => c.toInt8.toInt32)).map Value.int) ((([ch0, ch1] : List Int32).map (fun c => c.toInt8.toInt32)).map Value.int) p4 p1 p2 p2 p3 p3 p4 p4 (own_o w oi) (own_o w oi) zc f680 fq666_0 fq666_1 fq666_2 fq666_3 fq666_4 fq666_5 fq666_6 f681 f682 f683 f684 hcd656 hbd656 (by simp) f668 f669 f670 f671 f672 f673 f674 f675 f676 f677 f678 f679 hcd43 hbd43 (by simp) f685 hzc (Ne.symm ne627_b17)) hZ (wd hw 65 rfl) (wd hw 12 rfl) (by decide) (by decide)) q688a q688c (g := (mkF m 628 #[lv p1, .second, lv p2, .second, lv p3, .second, lv p4, .second, iv p5, iv p6, rv b1, iv z1, iv z2, iv oi, iv oj, iv ch0, iv ch1, iv ch2, iv zB, iv 3, iv 0, rv b17, iv z1, rv b614, lv p4, .second, lv p2, .second, lv p3, .second, lv p4, .second, rv (own_o w oi), rv b627, iv ze, .unset] [(.ref b17), (.ref b627)])) rfl (by rw [hml]; rfl) (Steps.refl _) (argsL := [(.ref b17)]) (rest := []) (lenOf pd2 rfl) rfl (by show 2 * 0 + _ ≤ _; exact Nat.le_of_eq rfl) (hb hby at_628) (fun _ _ => ⟨rfl, e686, (by decide : 9 + 0 ≤ _), (by decide : 33 + 0 ≤ _)⟩)
          dsimp only [Pt.U, Pt.locs, Pt.cells, Pt.slots] at X688 l688 y688 z688 st688 hQ688
          subst l688 y688 z688
          rcases hQ688 with hQ688 | hQ688
          · obtain ⟨rfl, Nq688, e688, hS688⟩ := hQ688
            have N688 := Fr.app N686 Nq688
            refine Goes.tr st688 ?_
            refine Goes.by (fun _ kz => XS.iload X688.here hx rfl (hb hby at_631) rfl (XS.icmpNo X688.here hx rfl (hb hby at_633) rfl (teq hc687).2 (XS.iconst X688.here hx rfl (hb hby at_636) kz))) ?_
            show Goes p e below (T688.setTop (mkF m 637 #[lv p1, .second, lv p2, .second, lv p3, .second, lv p4, .second, iv p5, iv p6, rv b1, iv z1, iv z2, iv oi, iv oj, iv ch0, iv ch1, iv ch2, iv zB, iv 3, iv 0, rv b17, iv z1, rv b614, lv p4, .second, lv p2, .second, lv p3, .second, lv p4, .second, rv (own_o w oi), rv b627, iv ze, .unset] [(.int 1)])) _
            refine Goes.by (fun _ kz => XS.goto X688.here hx rfl (pc0 := 637) (pc' := 641) rfl (hb hby at_637) (by decide) (by decide) kz) ?_
            show Goes p e below (T688.setTop (mkF m 641 #[lv p1, .second, lv p2, .second, lv p3, .second, lv p4, .second, iv p5, iv p6, rv b1, iv z1, iv z2, iv oi, iv oj, iv ch0, iv ch1, iv ch2, iv zB, iv 3, iv 0, rv b17, iv z1, rv b614, lv p4, .second, lv p2, .second, lv p3, .second, lv p4, .second, rv (own_o w oi), rv b627, iv ze, .unset] [(.int 1)])) _
            obtain ⟨fs, hr, hrun, hended, hW, hsame⟩ := X688.leave (v := some (.int 1)) (fun h => by rw [Bd.returns] at h; cases h)
            exact ⟨_, _, retN X688 hx (t := .boolean) Bd.returns (by simp) (hb hby at_641) hr, hrun, hended, _, _, rfl, ⟨rfl, N688⟩, ⟨_, rfl⟩, hW, hsame.mono (by decide) (by decide)⟩
          · obtain ⟨rfl, Nq688, e688, hS688⟩ := hQ688
            have N688 := Fr.app N686 Nq688
            refine Goes.tr st688 ?_
            refine Goes.by (fun _ kz => XS.iload X688.here hx rfl (hb hby at_631) rfl (XS.icmpYes X688.here hx rfl (pc0 := 633) (pc' := 640) rfl (hb hby at_633) rfl (feq (by rw [← hc687]; decide : ¬ ((0 : Int32) = ze))).2 (by decide) (by decide) (XS.iconst X688.here hx rfl (hb hby at_640) kz))) ?_
            show Goes p e below (T688.setTop (mkF m 641 #[lv p1, .second, lv p2, .second, lv p3, .second, lv p4, .second, iv p5, iv p6, rv b1, iv z1, iv z2, iv oi, iv oj, iv ch0, iv ch1, iv ch2, iv zB, iv 3, iv 0, rv b17, iv z1, rv b614, lv p4, .second, lv p2, .second, lv p3, .second, lv p4, .second, rv (own_o w oi), rv b627, iv ze, .unset] [(.int 0)])) _
            exfalso
            rcases hze with ⟨hz, hC⟩ | ⟨hz, hC⟩
            · first | (rw [hz] at hc687; exact absurd hc687 (by decide)) | (revert hS688; simp [own_same, own_nb hz1, own_nb hz2, own_oinj pne01 pne02 pne12 h_oi h_oj, own_oinj pne01 pne02 pne12 h_oj h_oi, hC]; done)
            · first | (rw [hz] at hc687; exact absurd hc687 (by decide)) | (revert hS688; simp [own_same, own_nb hz1, own_nb hz2, own_oinj pne01 pne02 pne12 h_oi h_oj, own_oinj pne01 pne02 pne12 h_oj h_oi, hC, Ne.symm hC]; done)
        · refine Goes.by (fun _ kz => XS.icmpYes X686.here hx rfl (pc0 := 621) (pc' := 640) rfl (hb hby at_621) rfl (feq hc687).2 (by decide) (by decide) (XS.iconst X686.here hx rfl (hb hby at_640) kz)) ?_
          show Goes p e below (T686.setTop (mkF m 641 #[lv p1, .second, lv p2, .second, lv p3, .second, lv p4, .second, iv p5, iv p6, rv b1, iv z1, iv z2, iv oi, iv oj, iv ch0, iv ch1, iv ch2, iv zB, iv 3, iv 0, rv b17, iv z1, rv b614, lv p4, .second, lv p2, .second, lv p3, .second, lv p4, .second, rv (own_o w oi), rv b627, iv ze, .unset] [(.int 0)])) _
          exfalso
          rcases hze with ⟨hz, hC⟩ | ⟨hz, hC⟩
          · first | (rw [hz] at hc687; exact absurd hc687 (by decide)) | (revert hS686; simp [own_same, own_nb hz1, own_nb hz2, own_oinj pne01 pne02 pne12 h_oi h_oj, own_oinj pne01 pne02 pne12 h_oj h_oi, hC]; done)
          · first | (rw [hz] at hc687; exact absurd hc687 (by decide)) | (revert hS686; simp [own_same, own_nb hz1, own_nb hz2, own_oinj pne01 pne02 pne12 h_oi h_oj, own_oinj pne01 pne02 pne12 h_oj h_oi, hC, Ne.symm hC]; done)
      · obtain ⟨rfl, Nq686, e686, hS686⟩ := hQ686
        have N686 := Fr.app N666 Nq686
        refine Goes.tr st686 ?_
        refine Goes.by (fun _ kz => XS.iload X686.here hx rfl (hb hby at_619) rfl kz) ?_
        show Goes p e below (T686.setTop (mkF m 621 #[lv p1, .second, lv p2, .second, lv p3, .second, lv p4, .second, iv p5, iv p6, rv b1, iv z1, iv z2, iv oi, iv oj, iv ch0, iv ch1, iv ch2, iv zB, iv 3, iv 0, rv b17, iv z1, rv b614, lv p4, .second, lv p2, .second, lv p3, .second, lv p4, .second, rv (own_o w oi), rv b627, iv ze, .unset] [(.int ze), (.int 0)])) _
        by_cases hc689 : (0 : Int32) = ze
        · refine Goes.by (fun _ kz => XS.icmpNo X686.here hx rfl (hb hby at_621) rfl (teq hc689).2 (XS.aload X686.here hx rfl (hb hby at_624) rfl rfl (XS.aload X686.here hx rfl (hb hby at_626) rfl rfl kz))) ?_
          obtain ⟨cq690, kq690, q690a, q690b, q690c⟩ := isOf hZ e686 f680
          obtain ⟨_, _, ⟨T690, L690, k690, n690⟩, -, X690, ⟨Lc690, hQ690, l690, y690, z690⟩, st690⟩ := X686.virtualBack hx (y := (⟨"com/example/killdeer/killdeer/GadgetView", "equals", "(Ljava/lang/Object;)Z"⟩ : MethodName)) (z := (⟨"com/example/killdeer/killdeer/GadgetView", "equals", "(Ljava/lang/Object;)Z"⟩ : MethodName)) hown (mvT hZ (wd hw 61 rfl)) (mvT hZ (wd hw 62 rfl)) (notFace_of_selects (args := #[]) (mvT hZ (wd hw 64 rfl))) (mvT hZ (wd hw 64 rfl)) (mvT hZ (wd hw 63 rfl)) (by decide) (backOf (W := 0) (r8_0 l Z a0 hw [] T666.heap n0 Z666 b627 b17 (nar .boolean z1) (nar .boolean z1) b635 b21 t657 t44 kb657 kb44 ([ch0, ch1] : List Int32) ([ch0, ch1] : List Int32) (2 : Int32) (2 : Int32) ((([ch0, ch1] : List Int32).map (fun c => c.toInt8.toInt32)).map Value.int) ((([ch0, ch1] : List Int32).map (fun c => c.toInt8.toInt32)).map Value.int) p4 p1 p2 p2 p3 p3 p4 p4 (own_o w oi) (own_o w oi) zc f680 fq666_0 fq666_1 fq666_2 fq666_3 fq666_4 fq666_5 fq666_6 f681 f682 f683 f684 hcd656 hbd656 (by simp) f668 f669 f670 f671 f672 f673 f674 f675 f676 f677 f678 f679 hcd43 hbd43 (by simp) f685 hzc (Ne.symm ne627_b17)) hZ (wd hw 65 rfl) (wd hw 12 rfl) (by decide) (by decide)) q690a q690c (g := (mkF m 628 #[lv p1, .second, lv p2, .second, lv p3, .second, lv p4, .second, iv p5, iv p6, rv b1, iv z1, iv z2, iv oi, iv oj, iv ch0, iv ch1, iv ch2, iv zB, iv 3, iv 0, rv b17, iv z1, rv b614, lv p4, .second, lv p2, .second, lv p3, .second, lv p4, .second, rv (own_o w oi), rv b627, iv ze, .unset] [(.ref b17), (.ref b627)])) rfl (by rw [hml]; rfl) (Steps.refl _) (argsL := [(.ref b17)]) (rest := []) (lenOf pd2 rfl) rfl (by show 2 * 0 + _ ≤ _; exact Nat.le_of_eq rfl) (hb hby at_628) (fun _ _ => ⟨rfl, e686, (by decide : 9 + 0 ≤ _), (by decide : 33 + 0 ≤ _)⟩)
          dsimp only [Pt.U, Pt.locs, Pt.cells, Pt.slots] at X690 l690 y690 z690 st690 hQ690
          subst l690 y690 z690
          rcases hQ690 with hQ690 | hQ690
          · obtain ⟨rfl, Nq690, e690, hS690⟩ := hQ690
            have N690 := Fr.app N686 Nq690
            refine Goes.tr st690 ?_
            refine Goes.by (fun _ kz => XS.iload X690.here hx rfl (hb hby at_631) rfl (XS.icmpYes X690.here hx rfl (pc0 := 633) (pc' := 640) rfl (hb hby at_633) rfl (feq (by rw [← hc689]; decide : ¬ ((1 : Int32) = ze))).2 (by decide) (by decide) (XS.iconst X690.here hx rfl (hb hby at_640) kz))) ?_
            show Goes p e below (T690.setTop (mkF m 641 #[lv p1, .second, lv p2, .second, lv p3, .second, lv p4, .second, iv p5, iv p6, rv b1, iv z1, iv z2, iv oi, iv oj, iv ch0, iv ch1, iv ch2, iv zB, iv 3, iv 0, rv b17, iv z1, rv b614, lv p4, .second, lv p2, .second, lv p3, .second, lv p4, .second, rv (own_o w oi), rv b627, iv ze, .unset] [(.int 0)])) _
            exfalso
            rcases hze with ⟨hz, hC⟩ | ⟨hz, hC⟩
            · first | (rw [hz] at hc689; exact absurd hc689 (by decide)) | (revert hS690; simp [own_same, own_nb hz1, own_nb hz2, own_oinj pne01 pne02 pne12 h_oi h_oj, own_oinj pne01 pne02 pne12 h_oj h_oi, hC]; done)
            · first | (rw [hz] at hc689; exact absurd hc689 (by decide)) | (revert hS690; simp [own_same, own_nb hz1, own_nb hz2, own_oinj pne01 pne02 pne12 h_oi h_oj, own_oinj pne01 pne02 pne12 h_oj h_oi, hC, Ne.symm hC]; done)
          · obtain ⟨rfl, Nq690, e690, hS690⟩ := hQ690
            have N690 := Fr.app N686 Nq690
            refine Goes.tr st690 ?_
            refine Goes.by (fun _ kz => XS.iload X690.here hx rfl (hb hby at_631) rfl (XS.icmpNo X690.here hx rfl (hb hby at_633) rfl (teq hc689).2 (XS.iconst X690.here hx rfl (hb hby at_636) kz))) ?_
            show Goes p e below (T690.setTop (mkF m 637 #[lv p1, .second, lv p2, .second, lv p3, .second, lv p4, .second, iv p5, iv p6, rv b1, iv z1, iv z2, iv oi, iv oj, iv ch0, iv ch1, iv ch2, iv zB, iv 3, iv 0, rv b17, iv z1, rv b614, lv p4, .second, lv p2, .second, lv p3, .second, lv p4, .second, rv (own_o w oi), rv b627, iv ze, .unset] [(.int 1)])) _
            refine Goes.by (fun _ kz => XS.goto X690.here hx rfl (pc0 := 637) (pc' := 641) rfl (hb hby at_637) (by decide) (by decide) kz) ?_
            show Goes p e below (T690.setTop (mkF m 641 #[lv p1, .second, lv p2, .second, lv p3, .second, lv p4, .second, iv p5, iv p6, rv b1, iv z1, iv z2, iv oi, iv oj, iv ch0, iv ch1, iv ch2, iv zB, iv 3, iv 0, rv b17, iv z1, rv b614, lv p4, .second, lv p2, .second, lv p3, .second, lv p4, .second, rv (own_o w oi), rv b627, iv ze, .unset] [(.int 1)])) _
            obtain ⟨fs, hr, hrun, hended, hW, hsame⟩ := X690.leave (v := some (.int 1)) (fun h => by rw [Bd.returns] at h; cases h)
            exact ⟨_, _, retN X690 hx (t := .boolean) Bd.returns (by simp) (hb hby at_641) hr, hrun, hended, _, _, rfl, ⟨rfl, N690⟩, ⟨_, rfl⟩, hW, hsame.mono (by decide) (by decide)⟩
        · refine Goes.by (fun _ kz => XS.icmpYes X686.here hx rfl (pc0 := 621) (pc' := 640) rfl (hb hby at_621) rfl (feq hc689).2 (by decide) (by decide) (XS.iconst X686.here hx rfl (hb hby at_640) kz)) ?_
          show Goes p e below (T686.setTop (mkF m 641 #[lv p1, .second, lv p2, .second, lv p3, .second, lv p4, .second, iv p5, iv p6, rv b1, iv z1, iv z2, iv oi, iv oj, iv ch0, iv ch1, iv ch2, iv zB, iv 3, iv 0, rv b17, iv z1, rv b614, lv p4, .second, lv p2, .second, lv p3, .second, lv p4, .second, rv (own_o w oi), rv b627, iv ze, .unset] [(.int 0)])) _
          exfalso
          rcases hze with ⟨hz, hC⟩ | ⟨hz, hC⟩
          · first | (rw [hz] at hc689; exact absurd hc689 (by decide)) | (revert hS686; simp [own_same, own_nb hz1, own_nb hz2, own_oinj pne01 pne02 pne12 h_oi h_oj, own_oinj pne01 pne02 pne12 h_oj h_oi, hC]; done)
          · first | (rw [hz] at hc689; exact absurd hc689 (by decide)) | (revert hS686; simp [own_same, own_nb hz1, own_nb hz2, own_oinj pne01 pne02 pne12 h_oi h_oj, own_oinj pne01 pne02 pne12 h_oj h_oi, hC, Ne.symm hC]; done)
    · show Goes p e below (T666.setTop (mkF m 538 #[lv p1, .second, lv p2, .second, lv p3, .second, lv p4, .second, iv p5, iv p6, rv b1, iv z1, iv z2, iv oi, iv oj, iv ch0, iv ch1, iv ch2, iv zB, iv 3, iv 1, rv b17, iv z1, rv b614, lv p4, .second, lv p2, .second, lv p3, .second, lv p4, .second, rv (own_o w oi), rv b627, iv ze, .unset] [])) _
      refine Goes.by (fun _ kz => XS.iload X666.here hx rfl (hb hby at_538) rfl (XS.iconst X666.here hx rfl (hb hby at_540) (XS.icmpNo X666.here hx rfl (hb hby at_541) rfl (teq (by decide : (1 : Int32) = (1 : Int32))).2 kz))) ?_
      show Goes p e below (T666.setTop (mkF m 544 #[lv p1, .second, lv p2, .second, lv p3, .second, lv p4, .second, iv p5, iv p6, rv b1, iv z1, iv z2, iv oi, iv oj, iv ch0, iv ch1, iv ch2, iv zB, iv 3, iv 1, rv b17, iv z1, rv b614, lv p4, .second, lv p2, .second, lv p3, .second, lv p4, .second, rv (own_o w oi), rv b627, iv ze, .unset] [])) _
      refine Goes.by (fun _ kz => XS.aload X666.here hx rfl (hb hby at_544) rfl rfl (XS.aload X666.here hx rfl (hb hby at_546) rfl rfl kz)) ?_
      have f692 := ((f651.keep Kq657).keep Kq666)
      obtain ⟨cq691, kq691, q691a, q691b, q691c⟩ := isOf hZ rfl f692
      obtain ⟨_, _, ⟨T691, L691, k691, n691⟩, -, X691, ⟨Lc691, hQ691, l691, y691, z691⟩, st691⟩ := X666.virtualBack hx (y := (⟨"com/example/killdeer/killdeer/GadgetView", "equals", "(Ljava/lang/Object;)Z"⟩ : MethodName)) (z := (⟨"com/example/killdeer/killdeer/GadgetView", "equals", "(Ljava/lang/Object;)Z"⟩ : MethodName)) hown (mvT hZ (wd hw 61 rfl)) (mvT hZ (wd hw 62 rfl)) (notFace_of_selects (args := #[]) (mvT hZ (wd hw 64 rfl))) (mvT hZ (wd hw 64 rfl)) (mvT hZ (wd hw 63 rfl)) (by decide) (backOf (W := 0) (r8_same l Z a0 hw [] T666.heap n0 Z666 b17) hZ (wd hw 65 rfl) (wd hw 12 rfl) (by decide) (by decide)) q691a q691c (g := (mkF m 548 #[lv p1, .second, lv p2, .second, lv p3, .second, lv p4, .second, iv p5, iv p6, rv b1, iv z1, iv z2, iv oi, iv oj, iv ch0, iv ch1, iv ch2, iv zB, iv 3, iv 1, rv b17, iv z1, rv b614, lv p4, .second, lv p2, .second, lv p3, .second, lv p4, .second, rv (own_o w oi), rv b627, iv ze, .unset] [(.ref b17), (.ref b17)])) rfl (by rw [hml]; rfl) (Steps.refl _) (argsL := [(.ref b17)]) (rest := []) (lenOf pd2 rfl) rfl (by show 2 * 0 + _ ≤ _; exact Nat.le_of_eq rfl) (hb hby at_548) (fun _ _ => ⟨rfl, rfl, (by decide : 9 + 0 ≤ _), (by decide : 33 + 0 ≤ _)⟩)
      dsimp only [Pt.U, Pt.locs, Pt.cells, Pt.slots] at X691 l691 y691 z691 st691 hQ691
      subst l691 y691 z691
      obtain ⟨rfl, Nq691, e691⟩ := hQ691
      have N691 := Fr.app N666 Nq691
      refine Goes.tr st691 ?_
      show Goes p e below (T691.setTop (mkF m 551 #[lv p1, .second, lv p2, .second, lv p3, .second, lv p4, .second, iv p5, iv p6, rv b1, iv z1, iv z2, iv oi, iv oj, iv ch0, iv ch1, iv ch2, iv zB, iv 3, iv 1, rv b17, iv z1, rv b614, lv p4, .second, lv p2, .second, lv p3, .second, lv p4, .second, rv (own_o w oi), rv b627, iv ze, .unset] [(.int 1)])) _
      obtain ⟨fs, hr, hrun, hended, hW, hsame⟩ := X691.leave (v := some (.int 1)) (fun h => by rw [Bd.returns] at h; cases h)
      exact ⟨_, _, retN X691 hx (t := .boolean) Bd.returns (by simp) (hb hby at_551) hr, hrun, hended, _, _, rfl, ⟨rfl, N691⟩, ⟨_, rfl⟩, hW, hsame.mono (by decide) (by decide)⟩
    · show Goes p e below (T666.setTop (mkF m 538 #[lv p1, .second, lv p2, .second, lv p3, .second, lv p4, .second, iv p5, iv p6, rv b1, iv z1, iv z2, iv oi, iv oj, iv ch0, iv ch1, iv ch2, iv zB, iv 3, iv 2, rv b17, iv z1, rv b614, lv p4, .second, lv p2, .second, lv p3, .second, lv p4, .second, rv (own_o w oi), rv b627, iv ze, .unset] [])) _
      refine Goes.by (fun _ kz => XS.iload X666.here hx rfl (hb hby at_538) rfl (XS.iconst X666.here hx rfl (hb hby at_540) (XS.icmpYes X666.here hx rfl (pc0 := 541) (pc' := 552) rfl (hb hby at_541) rfl (feq (by decide : ¬ ((2 : Int32) = (1 : Int32)))).2 (by decide) (by decide) kz))) ?_
      show Goes p e below (T666.setTop (mkF m 552 #[lv p1, .second, lv p2, .second, lv p3, .second, lv p4, .second, iv p5, iv p6, rv b1, iv z1, iv z2, iv oi, iv oj, iv ch0, iv ch1, iv ch2, iv zB, iv 3, iv 2, rv b17, iv z1, rv b614, lv p4, .second, lv p2, .second, lv p3, .second, lv p4, .second, rv (own_o w oi), rv b627, iv ze, .unset] [])) _
      refine Goes.by (fun _ kz => XS.iload X666.here hx rfl (hb hby at_552) rfl (XS.iconst X666.here hx rfl (hb hby at_554) (XS.icmpNo X666.here hx rfl (hb hby at_555) rfl (teq (by decide : (2 : Int32) = (2 : Int32))).2 kz))) ?_
      show Goes p e below (T666.setTop (mkF m 558 #[lv p1, .second, lv p2, .second, lv p3, .second, lv p4, .second, iv p5, iv p6, rv b1, iv z1, iv z2, iv oi, iv oj, iv ch0, iv ch1, iv ch2, iv zB, iv 3, iv 2, rv b17, iv z1, rv b614, lv p4, .second, lv p2, .second, lv p3, .second, lv p4, .second, rv (own_o w oi), rv b627, iv ze, .unset] [])) _
      refine Goes.by (fun _ kz => XS.aload X666.here hx rfl (hb hby at_558) rfl rfl (XS.aconstNull X666.here hx rfl (hb hby at_560) kz)) ?_
      have f694 := ((f651.keep Kq657).keep Kq666)
      obtain ⟨cq693, kq693, q693a, q693b, q693c⟩ := isOf hZ rfl f694
      obtain ⟨_, _, ⟨T693, L693, k693, n693⟩, -, X693, ⟨Lc693, hQ693, l693, y693, z693⟩, st693⟩ := X666.virtualBack hx (y := (⟨"com/example/killdeer/killdeer/GadgetView", "equals", "(Ljava/lang/Object;)Z"⟩ : MethodName)) (z := (⟨"com/example/killdeer/killdeer/GadgetView", "equals", "(Ljava/lang/Object;)Z"⟩ : MethodName)) hown (mvT hZ (wd hw 61 rfl)) (mvT hZ (wd hw 62 rfl)) (notFace_of_selects (args := #[]) (mvT hZ (wd hw 64 rfl))) (mvT hZ (wd hw 64 rfl)) (mvT hZ (wd hw 63 rfl)) (by decide) (backOf (W := 0) (r8_null l Z a0 hw [] T666.heap n0 Z666 b17) hZ (wd hw 65 rfl) (wd hw 12 rfl) (by decide) (by decide)) q693a q693c (g := (mkF m 561 #[lv p1, .second, lv p2, .second, lv p3, .second, lv p4, .second, iv p5, iv p6, rv b1, iv z1, iv z2, iv oi, iv oj, iv ch0, iv ch1, iv ch2, iv zB, iv 3, iv 2, rv b17, iv z1, rv b614, lv p4, .second, lv p2, .second, lv p3, .second, lv p4, .second, rv (own_o w oi), rv b627, iv ze, .unset] [.null, (.ref b17)])) rfl (by rw [hml]; rfl) (Steps.refl _) (argsL := [.null]) (rest := []) (lenOf pd2 rfl) rfl (by show 2 * 0 + _ ≤ _; exact Nat.le_of_eq rfl) (hb hby at_561) (fun _ _ => ⟨rfl, rfl, (by decide : 9 + 0 ≤ _), (by decide : 33 + 0 ≤ _)⟩)
      dsimp only [Pt.U, Pt.locs, Pt.cells, Pt.slots] at X693 l693 y693 z693 st693 hQ693
      subst l693 y693 z693
      obtain ⟨rfl, Nq693, e693⟩ := hQ693
      have N693 := Fr.app N666 Nq693
      refine Goes.tr st693 ?_
      refine Goes.by (fun _ kz => XS.ifNo X693.here hx rfl (hb hby at_564) rfl ((if0 _ _).trans (teq (by decide : (0 : Int32) = (0 : Int32))).2) (XS.iconst X693.here hx rfl (hb hby at_567) (XS.goto X693.here hx rfl (pc0 := 568) (pc' := 572) rfl (hb hby at_568) (by decide) (by decide) kz))) ?_
      show Goes p e below (T693.setTop (mkF m 572 #[lv p1, .second, lv p2, .second, lv p3, .second, lv p4, .second, iv p5, iv p6, rv b1, iv z1, iv z2, iv oi, iv oj, iv ch0, iv ch1, iv ch2, iv zB, iv 3, iv 2, rv b17, iv z1, rv b614, lv p4, .second, lv p2, .second, lv p3, .second, lv p4, .second, rv (own_o w oi), rv b627, iv ze, .unset] [(.int 1)])) _
      obtain ⟨fs, hr, hrun, hended, hW, hsame⟩ := X693.leave (v := some (.int 1)) (fun h => by rw [Bd.returns] at h; cases h)
      exact ⟨_, _, retN X693 hx (t := .boolean) Bd.returns (by simp) (hb hby at_572) hr, hrun, hended, _, _, rfl, ⟨rfl, N693⟩, ⟨_, rfl⟩, hW, hsame.mono (by decide) (by decide)⟩
    · show Goes p e below (T666.setTop (mkF m 538 #[lv p1, .second, lv p2, .second, lv p3, .second, lv p4, .second, iv p5, iv p6, rv b1, iv z1, iv z2, iv oi, iv oj, iv ch0, iv ch1, iv ch2, iv zB, iv 3, iv 3, rv b17, iv z1, rv b614, lv p4, .second, lv p2, .second, lv p3, .second, lv p4, .second, rv (own_o w oi), rv b627, iv ze, .unset] [])) _
      refine Goes.by (fun _ kz => XS.iload X666.here hx rfl (hb hby at_538) rfl (XS.iconst X666.here hx rfl (hb hby at_540) (XS.icmpYes X666.here hx rfl (pc0 := 541) (pc' := 552) rfl (hb hby at_541) rfl (feq (by decide : ¬ ((3 : Int32) = (1 : Int32)))).2 (by decide) (by decide) kz))) ?_
      show Goes p e below (T666.setTop (mkF m 552 #[lv p1, .second, lv p2, .second, lv p3, .second, lv p4, .second, iv p5, iv p6, rv b1, iv z1, iv z2, iv oi, iv oj, iv ch0, iv ch1, iv ch2, iv zB, iv 3, iv 3, rv b17, iv z1, rv b614, lv p4, .second, lv p2, .second, lv p3, .second, lv p4, .second, rv (own_o w oi), rv b627, iv ze, .unset] [])) _
      refine Goes.by (fun _ kz => XS.iload X666.here hx rfl (hb hby at_552) rfl (XS.iconst X666.here hx rfl (hb hby at_554) (XS.icmpYes X666.here hx rfl (pc0 := 555) (pc' := 573) rfl (hb hby at_555) rfl (feq (by decide : ¬ ((3 : Int32) = (2 : Int32)))).2 (by decide) (by decide) kz))) ?_
      show Goes p e below (T666.setTop (mkF m 573 #[lv p1, .second, lv p2, .second, lv p3, .second, lv p4, .second, iv p5, iv p6, rv b1, iv z1, iv z2, iv oi, iv oj, iv ch0, iv ch1, iv ch2, iv zB, iv 3, iv 3, rv b17, iv z1, rv b614, lv p4, .second, lv p2, .second, lv p3, .second, lv p4, .second, rv (own_o w oi), rv b627, iv ze, .unset] [])) _
      refine Goes.by (fun _ kz => XS.iload X666.here hx rfl (hb hby at_573) rfl (XS.iconst X666.here hx rfl (hb hby at_575) (XS.icmpNo X666.here hx rfl (hb hby at_576) rfl (teq (by decide : (3 : Int32) = (3 : Int32))).2 kz))) ?_
      have f696 := ((f647.keep Kq657).keep Kq666)
      have f697 := ((f648.keep Kq657).keep Kq666)
      have f698 := ((f649.keep Kq657).keep Kq666)
      have f699 := ((f650.keep Kq657 (ninS ne635_b1 nin0)).keep Kq666 (ninS ne627_b1 nin0))
      have f700 := ((f651.keep Kq657).keep Kq666)
      have f701 := ((f652.keep Kq657).keep Kq666)
      have f702 := ((f653.keep Kq657 (ninS ne635_b26 nin0)).keep Kq666 (ninS ne627_b26 nin0))
      have f703 := ((f654.keep Kq657 (ninS ne635_t44 nin0)).keep Kq666 (ninS ne627_t44 nin0))
      have f704 := ((f645.keep Kq657 (ninS ne635_b614 nin0)).keep Kq666 (ninS ne627_b614 nin0))
      have f705 := (f658.keep Kq666)
      have f706 := ((A635.keep Kq657).keep Kq666)
      have f707 := (gA657.keep Kq666 (ninS (Ne.symm net657_b627) nin0))
      obtain ⟨T695, h695, X695, e695, E695, A695, D695, -, st695⟩ := newO X666 hx hZ hown (wd hw 13 rfl) (wd hw 14 rfl) (wd hw 15 rfl) rfl (g := (mkF m 579 #[lv p1, .second, lv p2, .second, lv p3, .second, lv p4, .second, iv p5, iv p6, rv b1, iv z1, iv z2, iv oi, iv oj, iv ch0, iv ch1, iv ch2, iv zB, iv 3, iv 3, rv b17, iv z1, rv b614, lv p4, .second, lv p2, .second, lv p3, .second, lv p4, .second, rv (own_o w oi), rv b627, iv ze, .unset] [])) rfl (hb hby at_579) (by decide) (by decide)
      obtain ⟨b695, g695⟩ : ∃ z, z = T666.heap.size := ⟨_, rfl⟩
      rw [← g695] at A695 D695 st695
      have ne695__w_0_ : (w 0) ≠ b695 := Nat.ne_of_lt (Nat.lt_of_lt_of_le f696.lt (Nat.le_of_eq g695.symm))
      have ne695__w_1_ : (w 1) ≠ b695 := Nat.ne_of_lt (Nat.lt_of_lt_of_le f697.lt (Nat.le_of_eq g695.symm))
      have ne695__w_2_ : (w 2) ≠ b695 := Nat.ne_of_lt (Nat.lt_of_lt_of_le f698.lt (Nat.le_of_eq g695.symm))
      have ne695_b1 : b1 ≠ b695 := Nat.ne_of_lt (Nat.lt_of_lt_of_le f699.lt (Nat.le_of_eq g695.symm))
      have ne695_b17 : b17 ≠ b695 := Nat.ne_of_lt (Nat.lt_of_lt_of_le f700.lt (Nat.le_of_eq g695.symm))
      have ne695_b21 : b21 ≠ b695 := Nat.ne_of_lt (Nat.lt_of_lt_of_le f701.lt (Nat.le_of_eq g695.symm))
      have ne695_b26 : b26 ≠ b695 := Nat.ne_of_lt (Nat.lt_of_lt_of_le f702.lt (Nat.le_of_eq g695.symm))
      have ne695_t44 : t44 ≠ b695 := Nat.ne_of_lt (Nat.lt_of_lt_of_le f703.lt (Nat.le_of_eq g695.symm))
      have ne695_b614 : b614 ≠ b695 := Nat.ne_of_lt (Nat.lt_of_lt_of_le f704.lt (Nat.le_of_eq g695.symm))
      have ne695_b627 : b627 ≠ b695 := Nat.ne_of_lt (Nat.lt_of_lt_of_le f705.lt (Nat.le_of_eq g695.symm))
      have ne695_b635 : b635 ≠ b695 := Nat.ne_of_lt (Nat.lt_of_lt_of_le f706.lt (Nat.le_of_eq g695.symm))
      have ne695_t657 : t657 ≠ b695 := Nat.ne_of_lt (Nat.lt_of_lt_of_le f707.lt (Nat.le_of_eq g695.symm))
      have g_b695 : n0 ≤ b695 := Nat.le_trans Z666 (Nat.le_of_eq g695.symm)
      have sz_b695 : h0.size ≤ b695 := Nat.le_trans K666.1 (Nat.le_of_eq g695.symm)
      have F695_coder : Fld Z h695 b695 "java/lang/String" "coder" "B" (.int 0) := D695 (Or.inr (wd hw 40 rfl)) (ty := .byte) (by decide)
      have F695_value : Fld Z h695 b695 "java/lang/String" "value" "[B" .null := D695 (Or.inr (wd hw 42 rfl)) (ty := (.array .byte)) (by decide)
      have K695 : Keep h0 h695 [] := Keep.ext K666 E695
      have Z695 : n0 ≤ h695.size := Nat.le_trans Z666 E695.1
      refine Goes.by st695 ?_
      refine Goes.by (fun _ kz => XS.dup X695.here hx rfl (hb hby at_582) rfl rfl (XS.iconst X695.here hx rfl (hb hby at_583) kz)) ?_
      have f709 := (f696.ext E695)
      have f710 := (f697.ext E695)
      have f711 := (f698.ext E695)
      have f712 := (f699.ext E695)
      have f713 := (f700.ext E695)
      have f714 := (f701.ext E695)
      have f715 := (f702.ext E695)
      have f716 := (f703.ext E695)
      have f717 := (f704.ext E695)
      have f718 := (f705.ext E695)
      have f719 := (f706.ext E695)
      have f720 := (f707.ext E695)
      obtain ⟨T708, h708, k708, X708, e708, E708, A708, st708⟩ := newP X695 hx hZ (wd hw 16 rfl) e695 (g := (mkF m 584 #[lv p1, .second, lv p2, .second, lv p3, .second, lv p4, .second, iv p5, iv p6, rv b1, iv z1, iv z2, iv oi, iv oj, iv ch0, iv ch1, iv ch2, iv zB, iv 3, iv 3, rv b17, iv z1, rv b614, lv p4, .second, lv p2, .second, lv p3, .second, lv p4, .second, rv (own_o w oi), rv b627, iv ze, .unset] [(.int 1), (.ref b695), (.ref b695)])) rfl (hb hby at_584) rfl (by decide) (cap := 1) (by decide) (by decide) (by decide) (by decide)
      obtain ⟨b708, g708⟩ : ∃ z, z = h695.size := ⟨_, rfl⟩
      rw [← g708] at A708 st708
      have ne708__w_0_ : (w 0) ≠ b708 := Nat.ne_of_lt (Nat.lt_of_lt_of_le f709.lt (Nat.le_of_eq g708.symm))
      have ne708__w_1_ : (w 1) ≠ b708 := Nat.ne_of_lt (Nat.lt_of_lt_of_le f710.lt (Nat.le_of_eq g708.symm))
      have ne708__w_2_ : (w 2) ≠ b708 := Nat.ne_of_lt (Nat.lt_of_lt_of_le f711.lt (Nat.le_of_eq g708.symm))
      have ne708_b1 : b1 ≠ b708 := Nat.ne_of_lt (Nat.lt_of_lt_of_le f712.lt (Nat.le_of_eq g708.symm))
      have ne708_b17 : b17 ≠ b708 := Nat.ne_of_lt (Nat.lt_of_lt_of_le f713.lt (Nat.le_of_eq g708.symm))
      have ne708_b21 : b21 ≠ b708 := Nat.ne_of_lt (Nat.lt_of_lt_of_le f714.lt (Nat.le_of_eq g708.symm))
      have ne708_b26 : b26 ≠ b708 := Nat.ne_of_lt (Nat.lt_of_lt_of_le f715.lt (Nat.le_of_eq g708.symm))
      have ne708_t44 : t44 ≠ b708 := Nat.ne_of_lt (Nat.lt_of_lt_of_le f716.lt (Nat.le_of_eq g708.symm))
      have ne708_b614 : b614 ≠ b708 := Nat.ne_of_lt (Nat.lt_of_lt_of_le f717.lt (Nat.le_of_eq g708.symm))
      have ne708_b627 : b627 ≠ b708 := Nat.ne_of_lt (Nat.lt_of_lt_of_le f718.lt (Nat.le_of_eq g708.symm))
      have ne708_b635 : b635 ≠ b708 := Nat.ne_of_lt (Nat.lt_of_lt_of_le f719.lt (Nat.le_of_eq g708.symm))
      have ne708_t657 : t657 ≠ b708 := Nat.ne_of_lt (Nat.lt_of_lt_of_le f720.lt (Nat.le_of_eq g708.symm))
      have ne708_b695 : b695 ≠ b708 := Nat.ne_of_lt (Nat.lt_of_lt_of_le A695.lt (Nat.le_of_eq g708.symm))
      have g_b708 : n0 ≤ b708 := Nat.le_trans Z695 (Nat.le_of_eq g708.symm)
      have sz_b708 : h0.size ≤ b708 := Nat.le_trans K695.1 (Nat.le_of_eq g708.symm)
      have V708 : Arv Z h708 b708 k708 .char (1 : Int32) [(.int 0)] (.int 0) := (Arv.new A708 (by decide)).pad (pad_rep [] (.int 0) 1)
      have K708 : Keep h0 h708 [] := Keep.ext K695 E708
      have Z708 : n0 ≤ h708.size := Nat.le_trans Z695 E708.1
      refine Goes.by st708 ?_
      refine Goes.by (fun _ kz => XS.dup X708.here hx rfl (hb hby at_586) rfl rfl (XS.iconst X708.here hx rfl (hb hby at_587) (XS.iload X708.here hx rfl (hb hby at_588) rfl kz))) ?_
      obtain ⟨cl721, Ar721, Cq721, Sz721, Nn721, Hh721, Gg721⟩ := id V708
      have hin721 : ¬ ((0 : Int32) < 0 ∨ cl721.slots.size ≤ ((0 : Int32)).toNatClampNeg) := inb_of Sz721 ⟨by decide, by decide⟩
      obtain ⟨T721, h721, X721, e721, W721, st721⟩ := stC X708 hx hZ e708 Ar721 (j := (0 : Int32)) hin721 (g := (mkF m 590 #[lv p1, .second, lv p2, .second, lv p3, .second, lv p4, .second, iv p5, iv p6, rv b1, iv z1, iv z2, iv oi, iv oj, iv ch0, iv ch1, iv ch2, iv zB, iv 3, iv 3, rv b17, iv z1, rv b614, lv p4, .second, lv p2, .second, lv p3, .second, lv p4, .second, rv (own_o w oi), rv b627, iv ze, .unset] [(.int ch0), (.int 0), (.ref b708), (.ref b708), (.ref b695), (.ref b695)])) rfl rfl (hb hby at_590)
      have V721 : Arv Z h721 b708 k708 .char (1 : Int32) [(.int (nar .char ch0))] (.int 0) := Arv.set Ar721 Cq721 Sz721 Nn721 Hh721 Gg721 (fits_nar_char _) W721 0 rfl (Nat.le_of_ble_eq_true rfl)
      rw [hn_ch0] at V721
      have K721 : Keep h0 h721 [] := Keep.wr K708 W721 (Or.inr sz_b708)
      have Z721 : n0 ≤ h721.size := Nat.le_trans Z708 (Keep.of_wr W721).1
      have N721 := Fr.snoc X721 N666 g_b708
      refine Goes.by st721 ?_
      show Goes p e below (T721.setTop (mkF m 591 #[lv p1, .second, lv p2, .second, lv p3, .second, lv p4, .second, iv p5, iv p6, rv b1, iv z1, iv z2, iv oi, iv oj, iv ch0, iv ch1, iv ch2, iv zB, iv 3, iv 3, rv b17, iv z1, rv b614, lv p4, .second, lv p2, .second, lv p3, .second, lv p4, .second, rv (own_o w oi), rv b627, iv ze, .unset] [(.ref b708), (.ref b695), (.ref b695)])) _
      have f722 := (Exa.wr W721 (A695.ext E708))
      have f723 := (Fld.other W721 (F695_value.ext E708) (Or.inl ne708_b695))
      have f724 := (Fld.other W721 (F695_coder.ext E708) (Or.inl ne708_b695))
      have f725 := (Sta.wr W721 (((own_staKeep (own_staKeep f646 Kq657 (allS (own_nsE A635) all0)) Kq666 (allS (own_nsE f658) all0)).ext E695).ext E708))
      have f726 := (Exa.wr W721 (f709.ext E708))
      have f727 := (Exa.wr W721 (f710.ext E708))
      have f728 := (Exa.wr W721 (f711.ext E708))
      have f729 := ((f712.ext E708).other W721 ne708_b1)
      have f730 := (Exa.wr W721 (f713.ext E708))
      have f731 := (Exa.wr W721 (f714.ext E708))
      have f732 := ((f715.ext E708).other W721 ne708_b26)
      have f733 := ((f716.ext E708).other W721 ne708_t44)
      have f734 := ((f717.ext E708).other W721 ne708_b614)
      have f735 := (Exa.wr W721 (f718.ext E708))
      have f736 := (Exa.wr W721 (f719.ext E708))
      have f737 := ((f720.ext E708).other W721 ne708_t657)
      have hp738 : ∀ c ∈ ([ch0] : List Int32), ¬ c < 0 ∧ ¬ (255 : Int32) < c := by
        intro c hc; simp only [List.mem_cons, List.not_mem_nil, or_false] at hc
        rw [hc]; exact hb_ch0
      have hcd738 : StrChars.Road.CodA ([ch0] : List Int32) 0 (1 : Int32) ((([ch0] : List Int32).map (fun c => c.toInt8.toInt32)).map Value.int) := StrChars.Road.codOf (n := 1) rfl (fun c hc => (hp738 c hc).2)
      have hbd738 := own_up _ hp738
      obtain ⟨_, _, ⟨T739, L739, k739, n739⟩, -, X739, ⟨Lc739, hQ739, l739, y739, z739⟩, st739⟩ := X721.specialBack hx (y := (⟨"java/lang/String", "<init>", "([C)V"⟩ : MethodName)) rfl hown (mvT hZ (wd hw 17 rfl)) (mvT hZ (wd hw 18 rfl)) (mvT hZ (wd hw 19 rfl)) (by decide) (StrChars.Road.backV (W := 1) hZ hws (kI := 4) (wd hw 14 rfl) (cs := ([ch0] : List Int32)) (bs := (([ch0] : List Int32).map (fun c => c.toInt8.toInt32))) (n := 1) g_b695 Z721 f722 f723 f724 V721 f725 hzc rfl rfl (by decide) (by decide) hp738 rfl (by decide) (by decide)) (g := (mkF m 591 #[lv p1, .second, lv p2, .second, lv p3, .second, lv p4, .second, iv p5, iv p6, rv b1, iv z1, iv z2, iv oi, iv oj, iv ch0, iv ch1, iv ch2, iv zB, iv 3, iv 3, rv b17, iv z1, rv b614, lv p4, .second, lv p2, .second, lv p3, .second, lv p4, .second, rv (own_o w oi), rv b627, iv ze, .unset] [(.ref b708), (.ref b695), (.ref b695)])) rfl (by rw [hml]; rfl) (Steps.refl _) (a := b695) (argsL := [(.ref b708)]) (rest := [(.ref b695)]) (lenOf pd0 rfl) rfl (by show 2 * 0 + _ ≤ _; exact Nat.le_of_eq rfl) (hb hby at_591) (fun _ _ => ⟨rfl, e721, (by decide : 11 + 1 ≤ _), (by decide : 38 + 1 ≤ _)⟩)
      dsimp only [Pt.U, Pt.locs, Pt.cells, Pt.slots] at X739 l739 y739 z739 st739 hQ739
      subst l739 y739 z739
      obtain ⟨rfl, Nq739, Kq739, gE739, gC739, t739, kb739, u1_739, u2_739, u3_739, gV739, gA739⟩ := hQ739
      have K739 : Keep h0 T739.heap [] := Keep.trans K721 Kq739 (allS (Or.inr sz_b695) all0)
      have Z739 : n0 ≤ T739.heap.size := Nat.le_trans Z721 Kq739.1
      have net739__w_0_ : (w 0) ≠ t739 := Nat.ne_of_lt (Nat.lt_of_lt_of_le f726.lt u2_739)
      have net739__w_1_ : (w 1) ≠ t739 := Nat.ne_of_lt (Nat.lt_of_lt_of_le f727.lt u2_739)
      have net739__w_2_ : (w 2) ≠ t739 := Nat.ne_of_lt (Nat.lt_of_lt_of_le f728.lt u2_739)
      have net739_b1 : b1 ≠ t739 := Nat.ne_of_lt (Nat.lt_of_lt_of_le f729.lt u2_739)
      have net739_b17 : b17 ≠ t739 := Nat.ne_of_lt (Nat.lt_of_lt_of_le f730.lt u2_739)
      have net739_b21 : b21 ≠ t739 := Nat.ne_of_lt (Nat.lt_of_lt_of_le f731.lt u2_739)
      have net739_b26 : b26 ≠ t739 := Nat.ne_of_lt (Nat.lt_of_lt_of_le f732.lt u2_739)
      have net739_t44 : t44 ≠ t739 := Nat.ne_of_lt (Nat.lt_of_lt_of_le f733.lt u2_739)
      have net739_b614 : b614 ≠ t739 := Nat.ne_of_lt (Nat.lt_of_lt_of_le f734.lt u2_739)
      have net739_b627 : b627 ≠ t739 := Nat.ne_of_lt (Nat.lt_of_lt_of_le f735.lt u2_739)
      have net739_b635 : b635 ≠ t739 := Nat.ne_of_lt (Nat.lt_of_lt_of_le f736.lt u2_739)
      have net739_t657 : t657 ≠ t739 := Nat.ne_of_lt (Nat.lt_of_lt_of_le f737.lt u2_739)
      have net739_b695 : b695 ≠ t739 := Nat.ne_of_lt (Nat.lt_of_lt_of_le f722.lt u2_739)
      have net739_b708 : b708 ≠ t739 := Nat.ne_of_lt (Nat.lt_of_lt_of_le V721.lt u2_739)
      have g_t739 : n0 ≤ t739 := Nat.le_trans Z721 u2_739
      have sz_t739 : h0.size ≤ t739 := Nat.le_trans K721.1 u2_739
      have N739 := Fr.app N721 Nq739
      refine Goes.tr st739 ?_
      refine Goes.by (fun _ kz => XS.astore X739.here hx rfl (hb hby at_594) rfl rfl rfl (XS.aload X739.here hx rfl (hb hby at_596) rfl rfl (XS.aload X739.here hx rfl (hb hby at_598) rfl rfl kz))) ?_
      have f740 := (f722.keep Kq739)
      have f742 := (f730.keep Kq739)
      obtain ⟨cq741, kq741, q741a, q741b, q741c⟩ := isOf hZ rfl f742
      obtain ⟨_, _, ⟨T741, L741, k741, n741⟩, -, X741, ⟨Lc741, hQ741, l741, y741, z741⟩, st741⟩ := X739.virtualBack hx (y := (⟨"com/example/killdeer/killdeer/GadgetView", "equals", "(Ljava/lang/Object;)Z"⟩ : MethodName)) (z := (⟨"com/example/killdeer/killdeer/GadgetView", "equals", "(Ljava/lang/Object;)Z"⟩ : MethodName)) hown (mvT hZ (wd hw 61 rfl)) (mvT hZ (wd hw 62 rfl)) (notFace_of_selects (args := #[]) (mvT hZ (wd hw 64 rfl))) (mvT hZ (wd hw 64 rfl)) (mvT hZ (wd hw 63 rfl)) (by decide) (backOf (W := 0) (r8_str l Z a0 hw [] T739.heap n0 Z739 b17 b695 f740 ne695_b17) hZ (wd hw 65 rfl) (wd hw 12 rfl) (by decide) (by decide)) q741a q741c (g := (mkF m 600 #[lv p1, .second, lv p2, .second, lv p3, .second, lv p4, .second, iv p5, iv p6, rv b1, iv z1, iv z2, iv oi, iv oj, iv ch0, iv ch1, iv ch2, iv zB, iv 3, iv 3, rv b17, iv z1, rv b614, lv p4, .second, lv p2, .second, lv p3, .second, lv p4, .second, rv (own_o w oi), rv b627, iv ze, rv b695] [(.ref b695), (.ref b17)])) rfl (by rw [hml]; rfl) (Steps.refl _) (argsL := [(.ref b695)]) (rest := []) (lenOf pd2 rfl) rfl (by show 2 * 0 + _ ≤ _; exact Nat.le_of_eq rfl) (hb hby at_600) (fun _ _ => ⟨rfl, rfl, (by decide : 12 + 0 ≤ _), (by decide : 39 + 0 ≤ _)⟩)
      dsimp only [Pt.U, Pt.locs, Pt.cells, Pt.slots] at X741 l741 y741 z741 st741 hQ741
      subst l741 y741 z741
      obtain ⟨rfl, Nq741, e741⟩ := hQ741
      have N741 := Fr.app N739 Nq741
      refine Goes.tr st741 ?_
      refine Goes.by (fun _ kz => XS.ifNo X741.here hx rfl (hb hby at_603) rfl ((if0 _ _).trans (teq (by decide : (0 : Int32) = (0 : Int32))).2) (XS.iconst X741.here hx rfl (hb hby at_606) (XS.goto X741.here hx rfl (pc0 := 607) (pc' := 611) rfl (hb hby at_607) (by decide) (by decide) kz))) ?_
      show Goes p e below (T741.setTop (mkF m 611 #[lv p1, .second, lv p2, .second, lv p3, .second, lv p4, .second, iv p5, iv p6, rv b1, iv z1, iv z2, iv oi, iv oj, iv ch0, iv ch1, iv ch2, iv zB, iv 3, iv 3, rv b17, iv z1, rv b614, lv p4, .second, lv p2, .second, lv p3, .second, lv p4, .second, rv (own_o w oi), rv b627, iv ze, rv b695] [(.int 1)])) _
      obtain ⟨fs, hr, hrun, hended, hW, hsame⟩ := X741.leave (v := some (.int 1)) (fun h => by rw [Bd.returns] at h; cases h)
      exact ⟨_, _, retN X741 hx (t := .boolean) Bd.returns (by simp) (hb hby at_611) hr, hrun, hended, _, _, rfl, ⟨rfl, N741⟩, ⟨_, rfl⟩, hW, hsame.mono (by decide) (by decide)⟩
  · show Goes p e below (T81.setTop (mkF m 186 #[lv p1, .second, lv p2, .second, lv p3, .second, lv p4, .second, iv p5, iv p6, rv b1, iv z1, iv z2, iv oi, iv oj, iv ch0, iv ch1, iv ch2, iv zB, iv 4, iv (((p6.toUInt32 >>> ((4 : Int32) &&& 31).toUInt32).toInt32) &&& (3 : Int32)), rv b17, .unset, .unset, .unset, .unset, .unset, .unset, .unset, .unset, .unset, .unset, .unset, .unset, .unset, .unset] [])) _
    refine Goes.by (fun _ kz => XS.iload X81.here hx rfl (hb hby at_186) rfl (XS.iconst X81.here hx rfl (hb hby at_188) (XS.icmpYes X81.here hx rfl (pc0 := 189) (pc' := 197) rfl (hb hby at_189) rfl (feq (by decide : ¬ ((4 : Int32) = (1 : Int32)))).2 (by decide) (by decide) kz))) ?_
    show Goes p e below (T81.setTop (mkF m 197 #[lv p1, .second, lv p2, .second, lv p3, .second, lv p4, .second, iv p5, iv p6, rv b1, iv z1, iv z2, iv oi, iv oj, iv ch0, iv ch1, iv ch2, iv zB, iv 4, iv (((p6.toUInt32 >>> ((4 : Int32) &&& 31).toUInt32).toInt32) &&& (3 : Int32)), rv b17, .unset, .unset, .unset, .unset, .unset, .unset, .unset, .unset, .unset, .unset, .unset, .unset, .unset, .unset] [])) _
    refine Goes.by (fun _ kz => XS.iload X81.here hx rfl (hb hby at_197) rfl (XS.istore X81.here hx rfl (hb hby at_199) rfl rfl (XS.iload X81.here hx rfl (hb hby at_201) rfl kz))) ?_
    show Goes p e below (T81.setTop (mkF m 203 #[lv p1, .second, lv p2, .second, lv p3, .second, lv p4, .second, iv p5, iv p6, rv b1, iv z1, iv z2, iv oi, iv oj, iv ch0, iv ch1, iv ch2, iv zB, iv 4, iv (((p6.toUInt32 >>> ((4 : Int32) &&& 31).toUInt32).toInt32) &&& (3 : Int32)), rv b17, iv z1, .unset, .unset, .unset, .unset, .unset, .unset, .unset, .unset, .unset, .unset, .unset, .unset, .unset] [(.int 4)])) _
    refine Goes.by (fun _ kz => XS.iconst X81.here hx rfl (hb hby at_203) (XS.icmpYes X81.here hx rfl (pc0 := 204) (pc' := 243) rfl (hb hby at_204) rfl (feq (by decide : ¬ ((4 : Int32) = (2 : Int32)))).2 (by decide) (by decide) (XS.iconst X81.here hx rfl (hb hby at_243) kz))) ?_
    have f744 := ((f38.keep Kq44).keep Kq81)
    have f745 := ((f39.keep Kq44).keep Kq81)
    have f746 := ((f40.keep Kq44).keep Kq81)
    have f747 := (f46.keep Kq81 (ninS ne17_b1 nin0))
    have f748 := (f73.keep Kq81)
    have f749 := ((f34.keep Kq44).keep Kq81)
    have f750 := ((V33.keep Kq44 (ninS (Ne.symm ne26_b21) nin0)).keep Kq81 (ninS (Ne.symm ne26_b17) nin0))
    have f751 := (gA44.keep Kq81 (ninS (Ne.symm net44_b17) nin0))
    obtain ⟨T743, h743, k743, X743, e743, E743, A743, st743⟩ := newP X81 hx hZ (wd hw 16 rfl) rfl (g := (mkF m 244 #[lv p1, .second, lv p2, .second, lv p3, .second, lv p4, .second, iv p5, iv p6, rv b1, iv z1, iv z2, iv oi, iv oj, iv ch0, iv ch1, iv ch2, iv zB, iv 4, iv (((p6.toUInt32 >>> ((4 : Int32) &&& 31).toUInt32).toInt32) &&& (3 : Int32)), rv b17, iv z1, .unset, .unset, .unset, .unset, .unset, .unset, .unset, .unset, .unset, .unset, .unset, .unset, .unset] [(.int 2)])) rfl (hb hby at_244) rfl (by decide) (cap := 2) (by decide) (by decide) (by decide) (by decide)
    obtain ⟨b743, g743⟩ : ∃ z, z = T81.heap.size := ⟨_, rfl⟩
    rw [← g743] at A743 st743
    have ne743__w_0_ : (w 0) ≠ b743 := Nat.ne_of_lt (Nat.lt_of_lt_of_le f744.lt (Nat.le_of_eq g743.symm))
    have ne743__w_1_ : (w 1) ≠ b743 := Nat.ne_of_lt (Nat.lt_of_lt_of_le f745.lt (Nat.le_of_eq g743.symm))
    have ne743__w_2_ : (w 2) ≠ b743 := Nat.ne_of_lt (Nat.lt_of_lt_of_le f746.lt (Nat.le_of_eq g743.symm))
    have ne743_b1 : b1 ≠ b743 := Nat.ne_of_lt (Nat.lt_of_lt_of_le f747.lt (Nat.le_of_eq g743.symm))
    have ne743_b17 : b17 ≠ b743 := Nat.ne_of_lt (Nat.lt_of_lt_of_le f748.lt (Nat.le_of_eq g743.symm))
    have ne743_b21 : b21 ≠ b743 := Nat.ne_of_lt (Nat.lt_of_lt_of_le f749.lt (Nat.le_of_eq g743.symm))
    have ne743_b26 : b26 ≠ b743 := Nat.ne_of_lt (Nat.lt_of_lt_of_le f750.lt (Nat.le_of_eq g743.symm))
    have ne743_t44 : t44 ≠ b743 := Nat.ne_of_lt (Nat.lt_of_lt_of_le f751.lt (Nat.le_of_eq g743.symm))
    have g_b743 : n0 ≤ b743 := Nat.le_trans Z81 (Nat.le_of_eq g743.symm)
    have sz_b743 : h0.size ≤ b743 := Nat.le_trans K81.1 (Nat.le_of_eq g743.symm)
    have V743 : Arv Z h743 b743 k743 .char (2 : Int32) [(.int 0), (.int 0)] (.int 0) := (Arv.new A743 (by decide)).pad (pad_rep [] (.int 0) 2)
    have K743 : Keep h0 h743 [] := Keep.ext K81 E743
    have Z743 : n0 ≤ h743.size := Nat.le_trans Z81 E743.1
    refine Goes.by st743 ?_
    refine Goes.by (fun _ kz => XS.dup X743.here hx rfl (hb hby at_246) rfl rfl (XS.iconst X743.here hx rfl (hb hby at_247) (XS.iload X743.here hx rfl (hb hby at_248) rfl kz))) ?_
    obtain ⟨cl752, Ar752, Cq752, Sz752, Nn752, Hh752, Gg752⟩ := id V743
    have hin752 : ¬ ((0 : Int32) < 0 ∨ cl752.slots.size ≤ ((0 : Int32)).toNatClampNeg) := inb_of Sz752 ⟨by decide, by decide⟩
    obtain ⟨T752, h752, X752, e752, W752, st752⟩ := stC X743 hx hZ e743 Ar752 (j := (0 : Int32)) hin752 (g := (mkF m 250 #[lv p1, .second, lv p2, .second, lv p3, .second, lv p4, .second, iv p5, iv p6, rv b1, iv z1, iv z2, iv oi, iv oj, iv ch0, iv ch1, iv ch2, iv zB, iv 4, iv (((p6.toUInt32 >>> ((4 : Int32) &&& 31).toUInt32).toInt32) &&& (3 : Int32)), rv b17, iv z1, .unset, .unset, .unset, .unset, .unset, .unset, .unset, .unset, .unset, .unset, .unset, .unset, .unset] [(.int ch0), (.int 0), (.ref b743), (.ref b743)])) rfl rfl (hb hby at_250)
    have V752 : Arv Z h752 b743 k743 .char (2 : Int32) [(.int (nar .char ch0)), (.int 0)] (.int 0) := Arv.set Ar752 Cq752 Sz752 Nn752 Hh752 Gg752 (fits_nar_char _) W752 0 rfl (Nat.le_of_ble_eq_true rfl)
    rw [hn_ch0] at V752
    have K752 : Keep h0 h752 [] := Keep.wr K743 W752 (Or.inr sz_b743)
    have Z752 : n0 ≤ h752.size := Nat.le_trans Z743 (Keep.of_wr W752).1
    have N752 := Fr.snoc X752 N81 g_b743
    refine Goes.by st752 ?_
    refine Goes.by (fun _ kz => XS.dup X752.here hx rfl (hb hby at_251) rfl rfl (XS.iconst X752.here hx rfl (hb hby at_252) (XS.iload X752.here hx rfl (hb hby at_253) rfl kz))) ?_
    obtain ⟨cl753, Ar753, Cq753, Sz753, Nn753, Hh753, Gg753⟩ := id V752
    have hin753 : ¬ ((1 : Int32) < 0 ∨ cl753.slots.size ≤ ((1 : Int32)).toNatClampNeg) := inb_of Sz753 ⟨by decide, by decide⟩
    obtain ⟨T753, h753, X753, e753, W753, st753⟩ := stC X752 hx hZ e752 Ar753 (j := (1 : Int32)) hin753 (g := (mkF m 255 #[lv p1, .second, lv p2, .second, lv p3, .second, lv p4, .second, iv p5, iv p6, rv b1, iv z1, iv z2, iv oi, iv oj, iv ch0, iv ch1, iv ch2, iv zB, iv 4, iv (((p6.toUInt32 >>> ((4 : Int32) &&& 31).toUInt32).toInt32) &&& (3 : Int32)), rv b17, iv z1, .unset, .unset, .unset, .unset, .unset, .unset, .unset, .unset, .unset, .unset, .unset, .unset, .unset] [(.int ch1), (.int 1), (.ref b743), (.ref b743)])) rfl rfl (hb hby at_255)
    have V753 : Arv Z h753 b743 k743 .char (2 : Int32) [(.int ch0), (.int (nar .char ch1))] (.int 0) := Arv.set Ar753 Cq753 Sz753 Nn753 Hh753 Gg753 (fits_nar_char _) W753 1 rfl (Nat.le_of_ble_eq_true rfl)
    rw [hn_ch1] at V753
    have K753 : Keep h0 h753 [] := Keep.wr K752 W753 (Or.inr sz_b743)
    have Z753 : n0 ≤ h753.size := Nat.le_trans Z752 (Keep.of_wr W753).1
    have N753 := Fr.snoc X753 N752 g_b743
    refine Goes.by st753 ?_
    refine Goes.by (fun _ kz => XS.astore X753.here hx rfl (hb hby at_256) rfl rfl rfl (XS.iload X753.here hx rfl (hb hby at_258) rfl (XS.iconst X753.here hx rfl (hb hby at_260) kz))) ?_
    show Goes p e below (T753.setTop (mkF m 261 #[lv p1, .second, lv p2, .second, lv p3, .second, lv p4, .second, iv p5, iv p6, rv b1, iv z1, iv z2, iv oi, iv oj, iv ch0, iv ch1, iv ch2, iv zB, iv 4, iv (((p6.toUInt32 >>> ((4 : Int32) &&& 31).toUInt32).toInt32) &&& (3 : Int32)), rv b17, iv z1, rv b743, .unset, .unset, .unset, .unset, .unset, .unset, .unset, .unset, .unset, .unset, .unset, .unset] [(.int 3), (.int 4)])) _
    refine Goes.by (fun _ kz => XS.icmpYes X753.here hx rfl (pc0 := 261) (pc' := 269) rfl (hb hby at_261) rfl (feq (by decide : ¬ ((4 : Int32) = (3 : Int32)))).2 (by decide) (by decide) (XS.lloadN X753.here hx rfl (hb hby at_269) rfl (XS.lstore X753.here hx rfl (hb hby at_270) rfl rfl kz))) ?_
    show Goes p e below (T753.setTop (mkF m 272 #[lv p1, .second, lv p2, .second, lv p3, .second, lv p4, .second, iv p5, iv p6, rv b1, iv z1, iv z2, iv oi, iv oj, iv ch0, iv ch1, iv ch2, iv zB, iv 4, iv (((p6.toUInt32 >>> ((4 : Int32) &&& 31).toUInt32).toInt32) &&& (3 : Int32)), rv b17, iv z1, rv b743, lv p1, .second, .unset, .unset, .unset, .unset, .unset, .unset, .unset, .unset, .unset, .unset] [])) _
    refine Goes.by (fun _ kz => XS.iload X753.here hx rfl (hb hby at_272) rfl (XS.iconst X753.here hx rfl (hb hby at_274) (XS.icmpNo X753.here hx rfl (hb hby at_275) rfl (teq (by decide : (4 : Int32) = (4 : Int32))).2 kz))) ?_
    show Goes p e below (T753.setTop (mkF m 278 #[lv p1, .second, lv p2, .second, lv p3, .second, lv p4, .second, iv p5, iv p6, rv b1, iv z1, iv z2, iv oi, iv oj, iv ch0, iv ch1, iv ch2, iv zB, iv 4, iv (((p6.toUInt32 >>> ((4 : Int32) &&& 31).toUInt32).toInt32) &&& (3 : Int32)), rv b17, iv z1, rv b743, lv p1, .second, .unset, .unset, .unset, .unset, .unset, .unset, .unset, .unset, .unset, .unset] [])) _
    refine Goes.by (fun _ kz => XS.lload X753.here hx rfl (hb hby at_278) rfl (XS.goto X753.here hx rfl (pc0 := 280) (pc' := 284) rfl (hb hby at_280) (by decide) (by decide) (XS.lstore X753.here hx rfl (hb hby at_284) rfl rfl kz))) ?_
    show Goes p e below (T753.setTop (mkF m 286 #[lv p1, .second, lv p2, .second, lv p3, .second, lv p4, .second, iv p5, iv p6, rv b1, iv z1, iv z2, iv oi, iv oj, iv ch0, iv ch1, iv ch2, iv zB, iv 4, iv (((p6.toUInt32 >>> ((4 : Int32) &&& 31).toUInt32).toInt32) &&& (3 : Int32)), rv b17, iv z1, rv b743, lv p1, .second, lv p4, .second, .unset, .unset, .unset, .unset, .unset, .unset, .unset, .unset] [])) _
    refine Goes.by (fun _ kz => XS.iload X753.here hx rfl (hb hby at_286) rfl (XS.iconst X753.here hx rfl (hb hby at_288) (XS.icmpYes X753.here hx rfl (pc0 := 289) (pc' := 297) rfl (hb hby at_289) rfl (feq (by decide : ¬ ((4 : Int32) = (5 : Int32)))).2 (by decide) (by decide) kz))) ?_
    show Goes p e below (T753.setTop (mkF m 297 #[lv p1, .second, lv p2, .second, lv p3, .second, lv p4, .second, iv p5, iv p6, rv b1, iv z1, iv z2, iv oi, iv oj, iv ch0, iv ch1, iv ch2, iv zB, iv 4, iv (((p6.toUInt32 >>> ((4 : Int32) &&& 31).toUInt32).toInt32) &&& (3 : Int32)), rv b17, iv z1, rv b743, lv p1, .second, lv p4, .second, .unset, .unset, .unset, .unset, .unset, .unset, .unset, .unset] [])) _
    refine Goes.by (fun _ kz => XS.lload X753.here hx rfl (hb hby at_297) rfl (XS.lstore X753.here hx rfl (hb hby at_299) rfl rfl (XS.iload X753.here hx rfl (hb hby at_301) rfl kz))) ?_
    show Goes p e below (T753.setTop (mkF m 303 #[lv p1, .second, lv p2, .second, lv p3, .second, lv p4, .second, iv p5, iv p6, rv b1, iv z1, iv z2, iv oi, iv oj, iv ch0, iv ch1, iv ch2, iv zB, iv 4, iv (((p6.toUInt32 >>> ((4 : Int32) &&& 31).toUInt32).toInt32) &&& (3 : Int32)), rv b17, iv z1, rv b743, lv p1, .second, lv p4, .second, lv p3, .second, .unset, .unset, .unset, .unset, .unset, .unset] [(.int 4)])) _
    refine Goes.by (fun _ kz => XS.bipush X753.here hx rfl (hb hby at_303) (XS.icmpYes X753.here hx rfl (pc0 := 305) (pc' := 312) rfl (hb hby at_305) rfl (feq (by decide : ¬ ((4 : Int32) = (6 : Int32)))).2 (by decide) (by decide) (XS.lload X753.here hx rfl (hb hby at_312) rfl kz))) ?_
    show Goes p e below (T753.setTop (mkF m 314 #[lv p1, .second, lv p2, .second, lv p3, .second, lv p4, .second, iv p5, iv p6, rv b1, iv z1, iv z2, iv oi, iv oj, iv ch0, iv ch1, iv ch2, iv zB, iv 4, iv (((p6.toUInt32 >>> ((4 : Int32) &&& 31).toUInt32).toInt32) &&& (3 : Int32)), rv b17, iv z1, rv b743, lv p1, .second, lv p4, .second, lv p3, .second, .unset, .unset, .unset, .unset, .unset, .unset] [(.long p4)])) _
    refine Goes.by (fun _ kz => XS.lstore X753.here hx rfl (hb hby at_314) rfl rfl (XS.iload X753.here hx rfl (hb hby at_316) rfl (XS.bipush X753.here hx rfl (hb hby at_318) kz))) ?_
    show Goes p e below (T753.setTop (mkF m 320 #[lv p1, .second, lv p2, .second, lv p3, .second, lv p4, .second, iv p5, iv p6, rv b1, iv z1, iv z2, iv oi, iv oj, iv ch0, iv ch1, iv ch2, iv zB, iv 4, iv (((p6.toUInt32 >>> ((4 : Int32) &&& 31).toUInt32).toInt32) &&& (3 : Int32)), rv b17, iv z1, rv b743, lv p1, .second, lv p4, .second, lv p3, .second, lv p4, .second, .unset, .unset, .unset, .unset] [(.int 7), (.int 4)])) _
    refine Goes.by (fun _ kz => XS.icmpYes X753.here hx rfl (pc0 := 320) (pc' := 331) rfl (hb hby at_320) rfl (feq (by decide : ¬ ((4 : Int32) = (7 : Int32)))).2 (by decide) (by decide) (XS.aload X753.here hx rfl (hb hby at_331) rfl rfl (XS.iload X753.here hx rfl (hb hby at_333) rfl kz))) ?_
    show Goes p e below (T753.setTop (mkF m 335 #[lv p1, .second, lv p2, .second, lv p3, .second, lv p4, .second, iv p5, iv p6, rv b1, iv z1, iv z2, iv oi, iv oj, iv ch0, iv ch1, iv ch2, iv zB, iv 4, iv (((p6.toUInt32 >>> ((4 : Int32) &&& 31).toUInt32).toInt32) &&& (3 : Int32)), rv b17, iv z1, rv b743, lv p1, .second, lv p4, .second, lv p3, .second, lv p4, .second, .unset, .unset, .unset, .unset] [(.int oi), (.ref b1)])) _
    have f755 := (((f747.ext E743).other W752 ne743_b1).other W753 ne743_b1)
    obtain ⟨cl754, Ar754, Cq754, Sz754, Nn754, Hh754, Gg754⟩ := id f755
    have hin754 : ¬ (oi < 0 ∨ cl754.slots.size ≤ (oi).toNatClampNeg) := inb_of Sz754 (own_i3 h_oi)
    have hat754 : cl754.slots[(oi).toNatClampNeg]? = some (.ref (own_o w oi)) := Has.at Hh754 hin754 (by rcases h_oi with h | h | h <;> rw [h] <;> rfl)
    refine Goes.by (fun _ kz => X753.aaload hx (j := oi) (v := (.ref (own_o w oi))) (by rw [e753]; exact Ar754.1) (State.isArrayOf_alike hZ.alike Ar754.2.1) rfl Ar754.2.2 hin754 hat754 (g := (mkF m 335 #[lv p1, .second, lv p2, .second, lv p3, .second, lv p4, .second, iv p5, iv p6, rv b1, iv z1, iv z2, iv oi, iv oj, iv ch0, iv ch1, iv ch2, iv zB, iv 4, iv (((p6.toUInt32 >>> ((4 : Int32) &&& 31).toUInt32).toInt32) &&& (3 : Int32)), rv b17, iv z1, rv b743, lv p1, .second, lv p4, .second, lv p3, .second, lv p4, .second, .unset, .unset, .unset, .unset] [(.int oi), (.ref b1)])) rfl rfl (hb hby at_335) _ (XS.astore X753.here hx rfl (hb hby at_336) rfl rfl rfl kz)) ?_
    have f757 := (Exa.wr W753 (Exa.wr W752 (f744.ext E743)))
    have f758 := (Exa.wr W753 (Exa.wr W752 (f745.ext E743)))
    have f759 := (Exa.wr W753 (Exa.wr W752 (f746.ext E743)))
    have f760 := (Exa.wr W753 (Exa.wr W752 (f748.ext E743)))
    have f761 := (Exa.wr W753 (Exa.wr W752 (f749.ext E743)))
    have f762 := (((f750.ext E743).other W752 ne743_b26).other W753 ne743_b26)
    have f763 := (((f751.ext E743).other W752 ne743_t44).other W753 ne743_t44)
    obtain ⟨T756, h756, X756, e756, E756, A756, D756, -, st756⟩ := newO X753 hx hZ hown (wd hw 10 rfl) (wd hw 11 rfl) (wd hw 12 rfl) e753 (g := (mkF m 338 #[lv p1, .second, lv p2, .second, lv p3, .second, lv p4, .second, iv p5, iv p6, rv b1, iv z1, iv z2, iv oi, iv oj, iv ch0, iv ch1, iv ch2, iv zB, iv 4, iv (((p6.toUInt32 >>> ((4 : Int32) &&& 31).toUInt32).toInt32) &&& (3 : Int32)), rv b17, iv z1, rv b743, lv p1, .second, lv p4, .second, lv p3, .second, lv p4, .second, rv (own_o w oi), .unset, .unset, .unset] [])) rfl (hb hby at_338) (by decide) (by decide)
    obtain ⟨b756, g756⟩ : ∃ z, z = h753.size := ⟨_, rfl⟩
    rw [← g756] at A756 D756 st756
    have ne756__w_0_ : (w 0) ≠ b756 := Nat.ne_of_lt (Nat.lt_of_lt_of_le f757.lt (Nat.le_of_eq g756.symm))
    have ne756__w_1_ : (w 1) ≠ b756 := Nat.ne_of_lt (Nat.lt_of_lt_of_le f758.lt (Nat.le_of_eq g756.symm))
    have ne756__w_2_ : (w 2) ≠ b756 := Nat.ne_of_lt (Nat.lt_of_lt_of_le f759.lt (Nat.le_of_eq g756.symm))
    have ne756_b1 : b1 ≠ b756 := Nat.ne_of_lt (Nat.lt_of_lt_of_le f755.lt (Nat.le_of_eq g756.symm))
    have ne756_b17 : b17 ≠ b756 := Nat.ne_of_lt (Nat.lt_of_lt_of_le f760.lt (Nat.le_of_eq g756.symm))
    have ne756_b21 : b21 ≠ b756 := Nat.ne_of_lt (Nat.lt_of_lt_of_le f761.lt (Nat.le_of_eq g756.symm))
    have ne756_b26 : b26 ≠ b756 := Nat.ne_of_lt (Nat.lt_of_lt_of_le f762.lt (Nat.le_of_eq g756.symm))
    have ne756_t44 : t44 ≠ b756 := Nat.ne_of_lt (Nat.lt_of_lt_of_le f763.lt (Nat.le_of_eq g756.symm))
    have ne756_b743 : b743 ≠ b756 := Nat.ne_of_lt (Nat.lt_of_lt_of_le V753.lt (Nat.le_of_eq g756.symm))
    have g_b756 : n0 ≤ b756 := Nat.le_trans Z753 (Nat.le_of_eq g756.symm)
    have sz_b756 : h0.size ≤ b756 := Nat.le_trans K753.1 (Nat.le_of_eq g756.symm)
    have F756_visible : Fld Z h756 b756 "com/example/killdeer/killdeer/GadgetView" "visible" "Z" (.int 0) := D756 (Or.inr (wd hw 48 rfl)) (ty := .boolean) (by decide)
    have F756_appearance : Fld Z h756 b756 "com/example/killdeer/killdeer/GadgetView" "appearance" "Ljava/lang/String;" .null := D756 (Or.inr (wd hw 50 rfl)) (ty := (.object "java/lang/String")) (by decide)
    have F756_x : Fld Z h756 b756 "com/example/killdeer/killdeer/GadgetView" "x" "J" (.long 0) := D756 (Or.inr (wd hw 52 rfl)) (ty := .long) (by decide)
    have F756_y : Fld Z h756 b756 "com/example/killdeer/killdeer/GadgetView" "y" "J" (.long 0) := D756 (Or.inr (wd hw 54 rfl)) (ty := .long) (by decide)
    have F756_width : Fld Z h756 b756 "com/example/killdeer/killdeer/GadgetView" "width" "J" (.long 0) := D756 (Or.inr (wd hw 56 rfl)) (ty := .long) (by decide)
    have F756_height : Fld Z h756 b756 "com/example/killdeer/killdeer/GadgetView" "height" "J" (.long 0) := D756 (Or.inr (wd hw 58 rfl)) (ty := .long) (by decide)
    have F756_obscured : Fld Z h756 b756 "com/example/killdeer/killdeer/GadgetView" "obscured" "Lcom/example/killdeer/killdeer/GadgetView$Obscured;" .null := D756 (Or.inr (wd hw 60 rfl)) (ty := (.object "com/example/killdeer/killdeer/GadgetView$Obscured")) (by decide)
    have K756 : Keep h0 h756 [] := Keep.ext K753 E756
    have Z756 : n0 ≤ h756.size := Nat.le_trans Z753 E756.1
    refine Goes.by st756 ?_
    refine Goes.by (fun _ kz => XS.dup X756.here hx rfl (hb hby at_341) rfl rfl (XS.iload X756.here hx rfl (hb hby at_342) rfl kz)) ?_
    have f765 := (f757.ext E756)
    have f766 := (f758.ext E756)
    have f767 := (f759.ext E756)
    have f768 := (f755.ext E756)
    have f769 := (f760.ext E756)
    have f770 := (f761.ext E756)
    have f771 := (f762.ext E756)
    have f772 := (f763.ext E756)
    have f773 := (V753.ext E756)
    obtain ⟨T764, h764, X764, e764, E764, A764, D764, -, st764⟩ := newO X756 hx hZ hown (wd hw 13 rfl) (wd hw 14 rfl) (wd hw 15 rfl) e756 (g := (mkF m 344 #[lv p1, .second, lv p2, .second, lv p3, .second, lv p4, .second, iv p5, iv p6, rv b1, iv z1, iv z2, iv oi, iv oj, iv ch0, iv ch1, iv ch2, iv zB, iv 4, iv (((p6.toUInt32 >>> ((4 : Int32) &&& 31).toUInt32).toInt32) &&& (3 : Int32)), rv b17, iv z1, rv b743, lv p1, .second, lv p4, .second, lv p3, .second, lv p4, .second, rv (own_o w oi), .unset, .unset, .unset] [(.int z1), (.ref b756), (.ref b756)])) rfl (hb hby at_344) (by decide) (by decide)
    obtain ⟨b764, g764⟩ : ∃ z, z = h756.size := ⟨_, rfl⟩
    rw [← g764] at A764 D764 st764
    have ne764__w_0_ : (w 0) ≠ b764 := Nat.ne_of_lt (Nat.lt_of_lt_of_le f765.lt (Nat.le_of_eq g764.symm))
    have ne764__w_1_ : (w 1) ≠ b764 := Nat.ne_of_lt (Nat.lt_of_lt_of_le f766.lt (Nat.le_of_eq g764.symm))
    have ne764__w_2_ : (w 2) ≠ b764 := Nat.ne_of_lt (Nat.lt_of_lt_of_le f767.lt (Nat.le_of_eq g764.symm))
    have ne764_b1 : b1 ≠ b764 := Nat.ne_of_lt (Nat.lt_of_lt_of_le f768.lt (Nat.le_of_eq g764.symm))
    have ne764_b17 : b17 ≠ b764 := Nat.ne_of_lt (Nat.lt_of_lt_of_le f769.lt (Nat.le_of_eq g764.symm))
    have ne764_b21 : b21 ≠ b764 := Nat.ne_of_lt (Nat.lt_of_lt_of_le f770.lt (Nat.le_of_eq g764.symm))
    have ne764_b26 : b26 ≠ b764 := Nat.ne_of_lt (Nat.lt_of_lt_of_le f771.lt (Nat.le_of_eq g764.symm))
    have ne764_t44 : t44 ≠ b764 := Nat.ne_of_lt (Nat.lt_of_lt_of_le f772.lt (Nat.le_of_eq g764.symm))
    have ne764_b743 : b743 ≠ b764 := Nat.ne_of_lt (Nat.lt_of_lt_of_le f773.lt (Nat.le_of_eq g764.symm))
    have ne764_b756 : b756 ≠ b764 := Nat.ne_of_lt (Nat.lt_of_lt_of_le A756.lt (Nat.le_of_eq g764.symm))
    have g_b764 : n0 ≤ b764 := Nat.le_trans Z756 (Nat.le_of_eq g764.symm)
    have sz_b764 : h0.size ≤ b764 := Nat.le_trans K756.1 (Nat.le_of_eq g764.symm)
    have F764_coder : Fld Z h764 b764 "java/lang/String" "coder" "B" (.int 0) := D764 (Or.inr (wd hw 40 rfl)) (ty := .byte) (by decide)
    have F764_value : Fld Z h764 b764 "java/lang/String" "value" "[B" .null := D764 (Or.inr (wd hw 42 rfl)) (ty := (.array .byte)) (by decide)
    have K764 : Keep h0 h764 [] := Keep.ext K756 E764
    have Z764 : n0 ≤ h764.size := Nat.le_trans Z756 E764.1
    refine Goes.by st764 ?_
    refine Goes.by (fun _ kz => XS.dup X764.here hx rfl (hb hby at_347) rfl rfl (XS.aload X764.here hx rfl (hb hby at_348) rfl rfl kz)) ?_
    show Goes p e below (T764.setTop (mkF m 350 #[lv p1, .second, lv p2, .second, lv p3, .second, lv p4, .second, iv p5, iv p6, rv b1, iv z1, iv z2, iv oi, iv oj, iv ch0, iv ch1, iv ch2, iv zB, iv 4, iv (((p6.toUInt32 >>> ((4 : Int32) &&& 31).toUInt32).toInt32) &&& (3 : Int32)), rv b17, iv z1, rv b743, lv p1, .second, lv p4, .second, lv p3, .second, lv p4, .second, rv (own_o w oi), .unset, .unset, .unset] [(.ref b743), (.ref b764), (.ref b764), (.int z1), (.ref b756), (.ref b756)])) _
    have f774 := (f773.ext E764)
    have f775 := (((Sta.wr W753 (Sta.wr W752 ((own_staKeep (own_staKeep f37 Kq44 (allS (own_nsE f34) all0)) Kq81 (allS (own_nsE f73) all0)).ext E743))).ext E756).ext E764)
    have f776 := (f765.ext E764)
    have f777 := (f766.ext E764)
    have f778 := (f767.ext E764)
    have f779 := (f768.ext E764)
    have f780 := (f769.ext E764)
    have f781 := (f770.ext E764)
    have f782 := (f771.ext E764)
    have f783 := (f772.ext E764)
    have f784 := (A756.ext E764)
    have hp785 : ∀ c ∈ ([ch0, ch1] : List Int32), ¬ c < 0 ∧ ¬ (255 : Int32) < c := by
      intro c hc; simp only [List.mem_cons, List.not_mem_nil, or_false] at hc
      rcases hc with hc | hc
      · rw [hc]; exact hb_ch0
      · rw [hc]; exact hb_ch1
    have hcd785 : StrChars.Road.CodA ([ch0, ch1] : List Int32) 0 (2 : Int32) ((([ch0, ch1] : List Int32).map (fun c => c.toInt8.toInt32)).map Value.int) := StrChars.Road.codOf (n := 2) rfl (fun c hc => (hp785 c hc).2)
    have hbd785 := own_up _ hp785
    obtain ⟨_, _, ⟨T786, L786, k786, n786⟩, -, X786, ⟨Lc786, hQ786, l786, y786, z786⟩, st786⟩ := X764.specialBack hx (y := (⟨"java/lang/String", "<init>", "([C)V"⟩ : MethodName)) rfl hown (mvT hZ (wd hw 17 rfl)) (mvT hZ (wd hw 18 rfl)) (mvT hZ (wd hw 19 rfl)) (by decide) (StrChars.Road.backV (W := 4) hZ hws (kI := 4) (wd hw 14 rfl) (cs := ([ch0, ch1] : List Int32)) (bs := (([ch0, ch1] : List Int32).map (fun c => c.toInt8.toInt32))) (n := 2) g_b764 Z764 A764 F764_value F764_coder f774 f775 hzc rfl rfl (by decide) (by decide) hp785 rfl (by decide) (by decide)) (g := (mkF m 350 #[lv p1, .second, lv p2, .second, lv p3, .second, lv p4, .second, iv p5, iv p6, rv b1, iv z1, iv z2, iv oi, iv oj, iv ch0, iv ch1, iv ch2, iv zB, iv 4, iv (((p6.toUInt32 >>> ((4 : Int32) &&& 31).toUInt32).toInt32) &&& (3 : Int32)), rv b17, iv z1, rv b743, lv p1, .second, lv p4, .second, lv p3, .second, lv p4, .second, rv (own_o w oi), .unset, .unset, .unset] [(.ref b743), (.ref b764), (.ref b764), (.int z1), (.ref b756), (.ref b756)])) rfl (by rw [hml]; rfl) (Steps.refl _) (a := b764) (argsL := [(.ref b743)]) (rest := [(.ref b764), (.int z1), (.ref b756), (.ref b756)]) (lenOf pd0 rfl) rfl (by show 2 * 0 + _ ≤ _; exact Nat.le_of_eq rfl) (hb hby at_350) (fun _ _ => ⟨rfl, e764, (by decide : 8 + 1 ≤ _), (by decide : 31 + 2 ≤ _)⟩)
    dsimp only [Pt.U, Pt.locs, Pt.cells, Pt.slots] at X786 l786 y786 z786 st786 hQ786
    subst l786 y786 z786
    obtain ⟨rfl, Nq786, Kq786, gE786, gC786, t786, kb786, u1_786, u2_786, u3_786, gV786, gA786⟩ := hQ786
    have K786 : Keep h0 T786.heap [] := Keep.trans K764 Kq786 (allS (Or.inr sz_b764) all0)
    have Z786 : n0 ≤ T786.heap.size := Nat.le_trans Z764 Kq786.1
    have net786__w_0_ : (w 0) ≠ t786 := Nat.ne_of_lt (Nat.lt_of_lt_of_le f776.lt u2_786)
    have net786__w_1_ : (w 1) ≠ t786 := Nat.ne_of_lt (Nat.lt_of_lt_of_le f777.lt u2_786)
    have net786__w_2_ : (w 2) ≠ t786 := Nat.ne_of_lt (Nat.lt_of_lt_of_le f778.lt u2_786)
    have net786_b1 : b1 ≠ t786 := Nat.ne_of_lt (Nat.lt_of_lt_of_le f779.lt u2_786)
    have net786_b17 : b17 ≠ t786 := Nat.ne_of_lt (Nat.lt_of_lt_of_le f780.lt u2_786)
    have net786_b21 : b21 ≠ t786 := Nat.ne_of_lt (Nat.lt_of_lt_of_le f781.lt u2_786)
    have net786_b26 : b26 ≠ t786 := Nat.ne_of_lt (Nat.lt_of_lt_of_le f782.lt u2_786)
    have net786_t44 : t44 ≠ t786 := Nat.ne_of_lt (Nat.lt_of_lt_of_le f783.lt u2_786)
    have net786_b743 : b743 ≠ t786 := Nat.ne_of_lt (Nat.lt_of_lt_of_le f774.lt u2_786)
    have net786_b756 : b756 ≠ t786 := Nat.ne_of_lt (Nat.lt_of_lt_of_le f784.lt u2_786)
    have net786_b764 : b764 ≠ t786 := Nat.ne_of_lt (Nat.lt_of_lt_of_le A764.lt u2_786)
    have g_t786 : n0 ≤ t786 := Nat.le_trans Z764 u2_786
    have sz_t786 : h0.size ≤ t786 := Nat.le_trans K764.1 u2_786
    have N786 := Fr.app N753 Nq786
    refine Goes.tr st786 ?_
    refine Goes.by (fun _ kz => XS.lload X786.here hx rfl (hb hby at_353) rfl (XS.lload X786.here hx rfl (hb hby at_355) rfl (XS.lload X786.here hx rfl (hb hby at_357) rfl kz))) ?_
    show Goes p e below (T786.setTop (mkF m 359 #[lv p1, .second, lv p2, .second, lv p3, .second, lv p4, .second, iv p5, iv p6, rv b1, iv z1, iv z2, iv oi, iv oj, iv ch0, iv ch1, iv ch2, iv zB, iv 4, iv (((p6.toUInt32 >>> ((4 : Int32) &&& 31).toUInt32).toInt32) &&& (3 : Int32)), rv b17, iv z1, rv b743, lv p1, .second, lv p4, .second, lv p3, .second, lv p4, .second, rv (own_o w oi), .unset, .unset, .unset] [(.long p3), (.long p4), (.long p1), (.ref b764), (.int z1), (.ref b756), (.ref b756)])) _
    refine Goes.by (fun _ kz => XS.lload X786.here hx rfl (hb hby at_359) rfl (XS.aload X786.here hx rfl (hb hby at_361) rfl rfl kz)) ?_
    have f787 := (f784.keep Kq786)
    have f788 := ((F756_visible.ext E764).keep Kq786 (ninS ne764_b756 nin0))
    have f789 := ((F756_appearance.ext E764).keep Kq786 (ninS ne764_b756 nin0))
    have f790 := ((F756_x.ext E764).keep Kq786 (ninS ne764_b756 nin0))
    have f791 := ((F756_y.ext E764).keep Kq786 (ninS ne764_b756 nin0))
    have f792 := ((F756_width.ext E764).keep Kq786 (ninS ne764_b756 nin0))
    have f793 := ((F756_height.ext E764).keep Kq786 (ninS ne764_b756 nin0))
    have f794 := ((F756_obscured.ext E764).keep Kq786 (ninS ne764_b756 nin0))
    obtain ⟨_, _, ⟨T795, L795, k795, n795⟩, -, X795, ⟨Lc795, hQ795, l795, y795, z795⟩, st795⟩ := X786.specialBack hx (y := (⟨"com/example/killdeer/killdeer/GadgetView", "<init>", "(ZLjava/lang/String;JJJJLcom/example/killdeer/killdeer/GadgetView$Obscured;)V"⟩ : MethodName)) rfl hown (mvT hZ (wd hw 43 rfl)) (mvT hZ (wd hw 44 rfl)) (mvT hZ (wd hw 45 rfl)) (by decide) (backOf (W := 1) (r7_0 l Z a0 hw [] T786.heap n0 Z786 b756 z1 b764 p1 p4 p3 p4 (own_o w oi) f787 f788 f789 f790 f791 f792 f793 f794 g_b756) hZ (wd hw 45 rfl) (wd hw 12 rfl) (by decide) (by decide)) (g := (mkF m 363 #[lv p1, .second, lv p2, .second, lv p3, .second, lv p4, .second, iv p5, iv p6, rv b1, iv z1, iv z2, iv oi, iv oj, iv ch0, iv ch1, iv ch2, iv zB, iv 4, iv (((p6.toUInt32 >>> ((4 : Int32) &&& 31).toUInt32).toInt32) &&& (3 : Int32)), rv b17, iv z1, rv b743, lv p1, .second, lv p4, .second, lv p3, .second, lv p4, .second, rv (own_o w oi), .unset, .unset, .unset] [(.ref (own_o w oi)), (.long p4), (.long p3), (.long p4), (.long p1), (.ref b764), (.int z1), (.ref b756), (.ref b756)])) rfl (by rw [hml]; rfl) (Steps.refl _) (a := b756) (argsL := [(.int z1), (.ref b764), (.long p1), (.long p4), (.long p3), (.long p4), (.ref (own_o w oi))]) (rest := [(.ref b756)]) (lenOf pd1 rfl) rfl (by show 2 * 0 + _ ≤ _; exact Nat.le_of_eq rfl) (hb hby at_363) (fun _ _ => ⟨rfl, rfl, (by decide : 9 + 0 ≤ _), (by decide : 33 + 0 ≤ _)⟩)
    dsimp only [Pt.U, Pt.locs, Pt.cells, Pt.slots] at X795 l795 y795 z795 st795 hQ795
    subst l795 y795 z795
    obtain ⟨rfl, Nq795, Kq795, fq795_0, fq795_1, fq795_2, fq795_3, fq795_4, fq795_5, fq795_6⟩ := hQ795
    have K795 : Keep h0 T795.heap [] := Keep.trans K786 Kq795 (allS (Or.inr sz_b756) all0)
    have Z795 : n0 ≤ T795.heap.size := Nat.le_trans Z786 Kq795.1
    have N795 := Fr.app N786 Nq795
    refine Goes.tr st795 ?_
    refine Goes.by (fun _ kz => XS.astore X795.here hx rfl (hb hby at_366) rfl rfl rfl (XS.iload X795.here hx rfl (hb hby at_368) rfl (XS.ifYes X795.here hx rfl (pc0 := 370) (pc' := 379) rfl (hb hby at_370) rfl ((if0 _ _).trans (feq (by decide : ¬ ((4 : Int32) = (0 : Int32)))).2) (by decide) (by decide) kz))) ?_
    show Goes p e below (T795.setTop (mkF m 379 #[lv p1, .second, lv p2, .second, lv p3, .second, lv p4, .second, iv p5, iv p6, rv b1, iv z1, iv z2, iv oi, iv oj, iv ch0, iv ch1, iv ch2, iv zB, iv 4, iv (((p6.toUInt32 >>> ((4 : Int32) &&& 31).toUInt32).toInt32) &&& (3 : Int32)), rv b17, iv z1, rv b743, lv p1, .second, lv p4, .second, lv p3, .second, lv p4, .second, rv (own_o w oi), rv b756, .unset, .unset] [])) _
    refine Goes.by (fun _ kz => XS.iload X795.here hx rfl (hb hby at_379) rfl (XS.iconst X795.here hx rfl (hb hby at_381) (XS.icmpYes X795.here hx rfl (pc0 := 382) (pc' := 402) rfl (hb hby at_382) rfl (feq (by decide : ¬ ((4 : Int32) = (1 : Int32)))).2 (by decide) (by decide) kz))) ?_
    show Goes p e below (T795.setTop (mkF m 402 #[lv p1, .second, lv p2, .second, lv p3, .second, lv p4, .second, iv p5, iv p6, rv b1, iv z1, iv z2, iv oi, iv oj, iv ch0, iv ch1, iv ch2, iv zB, iv 4, iv (((p6.toUInt32 >>> ((4 : Int32) &&& 31).toUInt32).toInt32) &&& (3 : Int32)), rv b17, iv z1, rv b743, lv p1, .second, lv p4, .second, lv p3, .second, lv p4, .second, rv (own_o w oi), rv b756, .unset, .unset] [])) _
    refine Goes.by (fun _ kz => XS.iload X795.here hx rfl (hb hby at_402) rfl (XS.iconst X795.here hx rfl (hb hby at_404) (XS.icmpYes X795.here hx rfl (pc0 := 405) (pc' := 430) rfl (hb hby at_405) rfl (feq (by decide : ¬ ((4 : Int32) = (2 : Int32)))).2 (by decide) (by decide) kz))) ?_
    show Goes p e below (T795.setTop (mkF m 430 #[lv p1, .second, lv p2, .second, lv p3, .second, lv p4, .second, iv p5, iv p6, rv b1, iv z1, iv z2, iv oi, iv oj, iv ch0, iv ch1, iv ch2, iv zB, iv 4, iv (((p6.toUInt32 >>> ((4 : Int32) &&& 31).toUInt32).toInt32) &&& (3 : Int32)), rv b17, iv z1, rv b743, lv p1, .second, lv p4, .second, lv p3, .second, lv p4, .second, rv (own_o w oi), rv b756, .unset, .unset] [])) _
    refine Goes.by (fun _ kz => XS.iload X795.here hx rfl (hb hby at_430) rfl (XS.iconst X795.here hx rfl (hb hby at_432) (XS.icmpYes X795.here hx rfl (pc0 := 433) (pc' := 453) rfl (hb hby at_433) rfl (feq (by decide : ¬ ((4 : Int32) = (3 : Int32)))).2 (by decide) (by decide) kz))) ?_
    show Goes p e below (T795.setTop (mkF m 453 #[lv p1, .second, lv p2, .second, lv p3, .second, lv p4, .second, iv p5, iv p6, rv b1, iv z1, iv z2, iv oi, iv oj, iv ch0, iv ch1, iv ch2, iv zB, iv 4, iv (((p6.toUInt32 >>> ((4 : Int32) &&& 31).toUInt32).toInt32) &&& (3 : Int32)), rv b17, iv z1, rv b743, lv p1, .second, lv p4, .second, lv p3, .second, lv p4, .second, rv (own_o w oi), rv b756, .unset, .unset] [])) _
    refine Goes.by (fun _ kz => XS.iload X795.here hx rfl (hb hby at_453) rfl (XS.iconst X795.here hx rfl (hb hby at_455) (XS.icmpNo X795.here hx rfl (hb hby at_456) rfl (teq (by decide : (4 : Int32) = (4 : Int32))).2 kz))) ?_
    show Goes p e below (T795.setTop (mkF m 459 #[lv p1, .second, lv p2, .second, lv p3, .second, lv p4, .second, iv p5, iv p6, rv b1, iv z1, iv z2, iv oi, iv oj, iv ch0, iv ch1, iv ch2, iv zB, iv 4, iv (((p6.toUInt32 >>> ((4 : Int32) &&& 31).toUInt32).toInt32) &&& (3 : Int32)), rv b17, iv z1, rv b743, lv p1, .second, lv p4, .second, lv p3, .second, lv p4, .second, rv (own_o w oi), rv b756, .unset, .unset] [])) _
    refine Goes.by (fun _ kz => XS.lloadN X795.here hx rfl (hb hby at_459) rfl (XS.lload X795.here hx rfl (hb hby at_460) rfl (XS.lcmp X795.here hx rfl (hb hby at_462) rfl kz))) ?_
    show Goes p e below (T795.setTop (mkF m 463 #[lv p1, .second, lv p2, .second, lv p3, .second, lv p4, .second, iv p5, iv p6, rv b1, iv z1, iv z2, iv oi, iv oj, iv ch0, iv ch1, iv ch2, iv zB, iv 4, iv (((p6.toUInt32 >>> ((4 : Int32) &&& 31).toUInt32).toInt32) &&& (3 : Int32)), rv b17, iv z1, rv b743, lv p1, .second, lv p4, .second, lv p3, .second, lv p4, .second, rv (own_o w oi), rv b756, .unset, .unset] [(.int (lcmpW p2 p4))])) _
    refine Goes.join (fun ze : Int32 => (ze = 1 ∧ p2 = p4) ∨ (ze = 0 ∧ ¬ p2 = p4)) (fun ze => T795.setTop (mkF m 471 #[lv p1, .second, lv p2, .second, lv p3, .second, lv p4, .second, iv p5, iv p6, rv b1, iv z1, iv z2, iv oi, iv oj, iv ch0, iv ch1, iv ch2, iv zB, iv 4, iv (((p6.toUInt32 >>> ((4 : Int32) &&& 31).toUInt32).toInt32) &&& (3 : Int32)), rv b17, iv z1, rv b743, lv p1, .second, lv p4, .second, lv p3, .second, lv p4, .second, rv (own_o w oi), rv b756, .unset, .unset] [(.int ze)])) (fun J => ?_) (fun ze hze => ?_)
    · show Goes p e below (T795.setTop (mkF m 463 #[lv p1, .second, lv p2, .second, lv p3, .second, lv p4, .second, iv p5, iv p6, rv b1, iv z1, iv z2, iv oi, iv oj, iv ch0, iv ch1, iv ch2, iv zB, iv 4, iv (((p6.toUInt32 >>> ((4 : Int32) &&& 31).toUInt32).toInt32) &&& (3 : Int32)), rv b17, iv z1, rv b743, lv p1, .second, lv p4, .second, lv p3, .second, lv p4, .second, rv (own_o w oi), rv b756, .unset, .unset] [(.int (lcmpW p2 p4))])) _
      by_cases hc796 : p2 = p4
      · refine Goes.by (fun _ kz => XS.ifNo X795.here hx rfl (hb hby at_463) rfl ((if0 _ _).trans (teq (own_eq hc796)).2) (XS.iconst X795.here hx rfl (hb hby at_466) (XS.goto X795.here hx rfl (pc0 := 467) (pc' := 471) rfl (hb hby at_467) (by decide) (by decide) kz))) ?_
        show Goes p e below (T795.setTop (mkF m 471 #[lv p1, .second, lv p2, .second, lv p3, .second, lv p4, .second, iv p5, iv p6, rv b1, iv z1, iv z2, iv oi, iv oj, iv ch0, iv ch1, iv ch2, iv zB, iv 4, iv (((p6.toUInt32 >>> ((4 : Int32) &&& 31).toUInt32).toInt32) &&& (3 : Int32)), rv b17, iv z1, rv b743, lv p1, .second, lv p4, .second, lv p3, .second, lv p4, .second, rv (own_o w oi), rv b756, .unset, .unset] [(.int 1)])) _
        exact J (1 : Int32) (Or.inl ⟨rfl, hc796⟩)
      · refine Goes.by (fun _ kz => XS.ifYes X795.here hx rfl (pc0 := 463) (pc' := 470) rfl (hb hby at_463) rfl ((if0 _ _).trans (feq (own_neq hc796)).2) (by decide) (by decide) (XS.iconst X795.here hx rfl (hb hby at_470) kz)) ?_
        show Goes p e below (T795.setTop (mkF m 471 #[lv p1, .second, lv p2, .second, lv p3, .second, lv p4, .second, iv p5, iv p6, rv b1, iv z1, iv z2, iv oi, iv oj, iv ch0, iv ch1, iv ch2, iv zB, iv 4, iv (((p6.toUInt32 >>> ((4 : Int32) &&& 31).toUInt32).toInt32) &&& (3 : Int32)), rv b17, iv z1, rv b743, lv p1, .second, lv p4, .second, lv p3, .second, lv p4, .second, rv (own_o w oi), rv b756, .unset, .unset] [(.int 0)])) _
        exact J (0 : Int32) (Or.inr ⟨rfl, hc796⟩)
    show Goes p e below (T795.setTop (mkF m 471 #[lv p1, .second, lv p2, .second, lv p3, .second, lv p4, .second, iv p5, iv p6, rv b1, iv z1, iv z2, iv oi, iv oj, iv ch0, iv ch1, iv ch2, iv zB, iv 4, iv (((p6.toUInt32 >>> ((4 : Int32) &&& 31).toUInt32).toInt32) &&& (3 : Int32)), rv b17, iv z1, rv b743, lv p1, .second, lv p4, .second, lv p3, .second, lv p4, .second, rv (own_o w oi), rv b756, .unset, .unset] [(.int ze)])) _
    refine Goes.by (fun _ kz => XS.istore X795.here hx rfl (hb hby at_471) rfl rfl (XS.goto X795.here hx rfl (pc0 := 473) (pc' := 538) rfl (hb hby at_473) (by decide) (by decide) kz)) ?_
    show Goes p e below (T795.setTop (mkF m 538 #[lv p1, .second, lv p2, .second, lv p3, .second, lv p4, .second, iv p5, iv p6, rv b1, iv z1, iv z2, iv oi, iv oj, iv ch0, iv ch1, iv ch2, iv zB, iv 4, iv (((p6.toUInt32 >>> ((4 : Int32) &&& 31).toUInt32).toInt32) &&& (3 : Int32)), rv b17, iv z1, rv b743, lv p1, .second, lv p4, .second, lv p3, .second, lv p4, .second, rv (own_o w oi), rv b756, iv ze, .unset] [])) _
    have hsot := own_k (((p6.toUInt32 >>> ((4 : Int32) &&& 31).toUInt32).toInt32))
    obtain ⟨ot, hot⟩ : ∃ z, z = (((p6.toUInt32 >>> ((4 : Int32) &&& 31).toUInt32).toInt32) &&& (3 : Int32)) := ⟨_, rfl⟩
    rw [← hot] at hsot ⊢
    rcases hsot with rfl | rfl | rfl | rfl
    · show Goes p e below (T795.setTop (mkF m 538 #[lv p1, .second, lv p2, .second, lv p3, .second, lv p4, .second, iv p5, iv p6, rv b1, iv z1, iv z2, iv oi, iv oj, iv ch0, iv ch1, iv ch2, iv zB, iv 4, iv 0, rv b17, iv z1, rv b743, lv p1, .second, lv p4, .second, lv p3, .second, lv p4, .second, rv (own_o w oi), rv b756, iv ze, .unset] [])) _
      refine Goes.by (fun _ kz => XS.iload X795.here hx rfl (hb hby at_538) rfl (XS.iconst X795.here hx rfl (hb hby at_540) (XS.icmpYes X795.here hx rfl (pc0 := 541) (pc' := 552) rfl (hb hby at_541) rfl (feq (by decide : ¬ ((0 : Int32) = (1 : Int32)))).2 (by decide) (by decide) kz))) ?_
      show Goes p e below (T795.setTop (mkF m 552 #[lv p1, .second, lv p2, .second, lv p3, .second, lv p4, .second, iv p5, iv p6, rv b1, iv z1, iv z2, iv oi, iv oj, iv ch0, iv ch1, iv ch2, iv zB, iv 4, iv 0, rv b17, iv z1, rv b743, lv p1, .second, lv p4, .second, lv p3, .second, lv p4, .second, rv (own_o w oi), rv b756, iv ze, .unset] [])) _
      refine Goes.by (fun _ kz => XS.iload X795.here hx rfl (hb hby at_552) rfl (XS.iconst X795.here hx rfl (hb hby at_554) (XS.icmpYes X795.here hx rfl (pc0 := 555) (pc' := 573) rfl (hb hby at_555) rfl (feq (by decide : ¬ ((0 : Int32) = (2 : Int32)))).2 (by decide) (by decide) kz))) ?_
      show Goes p e below (T795.setTop (mkF m 573 #[lv p1, .second, lv p2, .second, lv p3, .second, lv p4, .second, iv p5, iv p6, rv b1, iv z1, iv z2, iv oi, iv oj, iv ch0, iv ch1, iv ch2, iv zB, iv 4, iv 0, rv b17, iv z1, rv b743, lv p1, .second, lv p4, .second, lv p3, .second, lv p4, .second, rv (own_o w oi), rv b756, iv ze, .unset] [])) _
      refine Goes.by (fun _ kz => XS.iload X795.here hx rfl (hb hby at_573) rfl (XS.iconst X795.here hx rfl (hb hby at_575) (XS.icmpYes X795.here hx rfl (pc0 := 576) (pc' := 612) rfl (hb hby at_576) rfl (feq (by decide : ¬ ((0 : Int32) = (3 : Int32)))).2 (by decide) (by decide) kz))) ?_
      show Goes p e below (T795.setTop (mkF m 612 #[lv p1, .second, lv p2, .second, lv p3, .second, lv p4, .second, iv p5, iv p6, rv b1, iv z1, iv z2, iv oi, iv oj, iv ch0, iv ch1, iv ch2, iv zB, iv 4, iv 0, rv b17, iv z1, rv b743, lv p1, .second, lv p4, .second, lv p3, .second, lv p4, .second, rv (own_o w oi), rv b756, iv ze, .unset] [])) _
      refine Goes.by (fun _ kz => XS.aload X795.here hx rfl (hb hby at_612) rfl rfl (XS.aload X795.here hx rfl (hb hby at_614) rfl rfl kz)) ?_
      have f797 := ((f780.keep Kq786).keep Kq795)
      have f798 := (((((Fld.other W753 (Fld.other W752 (fq81_0.ext E743) (Or.inl ne743_b17)) (Or.inl ne743_b17)).ext E756).ext E764).keep Kq786 (ninS ne764_b17 nin0)).keep Kq795 (ninS ne756_b17 nin0))
      have f799 := (((((Fld.other W753 (Fld.other W752 (fq81_1.ext E743) (Or.inl ne743_b17)) (Or.inl ne743_b17)).ext E756).ext E764).keep Kq786 (ninS ne764_b17 nin0)).keep Kq795 (ninS ne756_b17 nin0))
      have f800 := (((((Fld.other W753 (Fld.other W752 (fq81_2.ext E743) (Or.inl ne743_b17)) (Or.inl ne743_b17)).ext E756).ext E764).keep Kq786 (ninS ne764_b17 nin0)).keep Kq795 (ninS ne756_b17 nin0))
      have f801 := (((((Fld.other W753 (Fld.other W752 (fq81_3.ext E743) (Or.inl ne743_b17)) (Or.inl ne743_b17)).ext E756).ext E764).keep Kq786 (ninS ne764_b17 nin0)).keep Kq795 (ninS ne756_b17 nin0))
      have f802 := (((((Fld.other W753 (Fld.other W752 (fq81_4.ext E743) (Or.inl ne743_b17)) (Or.inl ne743_b17)).ext E756).ext E764).keep Kq786 (ninS ne764_b17 nin0)).keep Kq795 (ninS ne756_b17 nin0))
      have f803 := (((((Fld.other W753 (Fld.other W752 (fq81_5.ext E743) (Or.inl ne743_b17)) (Or.inl ne743_b17)).ext E756).ext E764).keep Kq786 (ninS ne764_b17 nin0)).keep Kq795 (ninS ne756_b17 nin0))
      have f804 := (((((Fld.other W753 (Fld.other W752 (fq81_6.ext E743) (Or.inl ne743_b17)) (Or.inl ne743_b17)).ext E756).ext E764).keep Kq786 (ninS ne764_b17 nin0)).keep Kq795 (ninS ne756_b17 nin0))
      have f805 := ((f781.keep Kq786).keep Kq795)
      have f806 := (((((Fld.other W753 (Fld.other W752 ((gV44.keep Kq81 (ninS (Ne.symm ne21_b17) nin0)).ext E743) (Or.inl ne743_b21)) (Or.inl ne743_b21)).ext E756).ext E764).keep Kq786 (ninS ne764_b21 nin0)).keep Kq795 (ninS ne756_b21 nin0))
      have f807 := (((((Fld.other W753 (Fld.other W752 ((gC44.keep Kq81 (ninS (Ne.symm ne21_b17) nin0)).ext E743) (Or.inl ne743_b21)) (Or.inl ne743_b21)).ext E756).ext E764).keep Kq786 (ninS ne764_b21 nin0)).keep Kq795 (ninS ne756_b21 nin0))
      have f808 := ((f783.keep Kq786 (ninS ne764_t44 nin0)).keep Kq795 (ninS ne756_t44 nin0))
      have f809 := (f787.keep Kq795)
      have f810 := ((A764.keep Kq786).keep Kq795)
      have f811 := (gV786.keep Kq795 (ninS (Ne.symm ne764_b756) nin0))
      have f812 := (gC786.keep Kq795 (ninS (Ne.symm ne764_b756) nin0))
      have f813 := (gA786.keep Kq795 (ninS (Ne.symm net786_b756) nin0))
      have f814 := (own_staKeep (own_staKeep f775 Kq786 (allS (own_nsE A764) all0)) Kq795 (allS (own_nsE f787) all0))
      obtain ⟨cq815, kq815, q815a, q815b, q815c⟩ := isOf hZ rfl f797
      obtain ⟨_, _, ⟨T815, L815, k815, n815⟩, -, X815, ⟨Lc815, hQ815, l815, y815, z815⟩, st815⟩ := X795.virtualBack hx (y := (⟨"com/example/killdeer/killdeer/GadgetView", "equals", "(Ljava/lang/Object;)Z"⟩ : MethodName)) (z := (⟨"com/example/killdeer/killdeer/GadgetView", "equals", "(Ljava/lang/Object;)Z"⟩ : MethodName)) hown (mvT hZ (wd hw 61 rfl)) (mvT hZ (wd hw 62 rfl)) (notFace_of_selects (args := #[]) (mvT hZ (wd hw 64 rfl))) (mvT hZ (wd hw 64 rfl)) (mvT hZ (wd hw 63 rfl)) (by decide) (backOf (W := 0) (r8_0 l Z a0 hw [] T795.heap n0 Z795 b17 b756 (nar .boolean z1) (nar .boolean z1) b21 b764 t44 t786 kb44 kb786 ([ch0, ch1] : List Int32) ([ch0, ch1] : List Int32) (2 : Int32) (2 : Int32) ((([ch0, ch1] : List Int32).map (fun c => c.toInt8.toInt32)).map Value.int) ((([ch0, ch1] : List Int32).map (fun c => c.toInt8.toInt32)).map Value.int) p1 p1 p2 p4 p3 p3 p4 p4 (own_o w oi) (own_o w oi) zc f797 f798 f799 f800 f801 f802 f803 f804 f805 f806 f807 f808 hcd43 hbd43 (by simp) f809 fq795_0 fq795_1 fq795_2 fq795_3 fq795_4 fq795_5 fq795_6 f810 f811 f812 f813 hcd785 hbd785 (by simp) f814 hzc ne756_b17) hZ (wd hw 65 rfl) (wd hw 12 rfl) (by decide) (by decide)) q815a q815c (g := (mkF m 616 #[lv p1, .second, lv p2, .second, lv p3, .second, lv p4, .second, iv p5, iv p6, rv b1, iv z1, iv z2, iv oi, iv oj, iv ch0, iv ch1, iv ch2, iv zB, iv 4, iv 0, rv b17, iv z1, rv b743, lv p1, .second, lv p4, .second, lv p3, .second, lv p4, .second, rv (own_o w oi), rv b756, iv ze, .unset] [(.ref b756), (.ref b17)])) rfl (by rw [hml]; rfl) (Steps.refl _) (argsL := [(.ref b756)]) (rest := []) (lenOf pd2 rfl) rfl (by show 2 * 0 + _ ≤ _; exact Nat.le_of_eq rfl) (hb hby at_616) (fun _ _ => ⟨rfl, rfl, (by decide : 9 + 0 ≤ _), (by decide : 33 + 0 ≤ _)⟩)
      dsimp only [Pt.U, Pt.locs, Pt.cells, Pt.slots] at X815 l815 y815 z815 st815 hQ815
      subst l815 y815 z815
      rcases hQ815 with hQ815 | hQ815
      · obtain ⟨rfl, Nq815, e815, hS815⟩ := hQ815
        have N815 := Fr.app N795 Nq815
        refine Goes.tr st815 ?_
        refine Goes.by (fun _ kz => XS.iload X815.here hx rfl (hb hby at_619) rfl kz) ?_
        show Goes p e below (T815.setTop (mkF m 621 #[lv p1, .second, lv p2, .second, lv p3, .second, lv p4, .second, iv p5, iv p6, rv b1, iv z1, iv z2, iv oi, iv oj, iv ch0, iv ch1, iv ch2, iv zB, iv 4, iv 0, rv b17, iv z1, rv b743, lv p1, .second, lv p4, .second, lv p3, .second, lv p4, .second, rv (own_o w oi), rv b756, iv ze, .unset] [(.int ze), (.int 1)])) _
        by_cases hc816 : (1 : Int32) = ze
        · refine Goes.by (fun _ kz => XS.icmpNo X815.here hx rfl (hb hby at_621) rfl (teq hc816).2 (XS.aload X815.here hx rfl (hb hby at_624) rfl rfl (XS.aload X815.here hx rfl (hb hby at_626) rfl rfl kz))) ?_
          obtain ⟨cq817, kq817, q817a, q817b, q817c⟩ := isOf hZ e815 f809
          obtain ⟨_, _, ⟨T817, L817, k817, n817⟩, -, X817, ⟨Lc817, hQ817, l817, y817, z817⟩, st817⟩ := X815.virtualBack hx (y := (⟨"com/example/killdeer/killdeer/GadgetView", "equals", "(Ljava/lang/Object;)Z"⟩ : MethodName)) (z := (⟨"com/example/killdeer/killdeer/GadgetView", "equals", "(Ljava/lang/Object;)Z"⟩ : MethodName)) hown (mvT hZ (wd hw 61 rfl)) (mvT hZ (wd hw 62 rfl)) (notFace_of_selects (args := #[]) (mvT hZ (wd hw 64 rfl))) (mvT hZ (wd hw 64 rfl)) (mvT hZ (wd hw 63 rfl)) (by decide) (backOf (W := 0) (r8_0 l Z a0 hw [] T795.heap n0 Z795 b756 b17 (nar .boolean z1) (nar .boolean z1) b764 b21 t786 t44 kb786 kb44 ([ch0, ch1] : List Int32) ([ch0, ch1] : List Int32) (2 : Int32) (2 : Int32) ((([ch0, ch1] : List Int32).map (fun c => c.toInt8.toInt32)).map Value.int) ((([ch0, ch1] : List Int32).map (fun c => c.toInt8.toInt32)).map Value.int) p1 p1 p4 p2 p3 p3 p4 p4 (own_o w oi) (own_o w oi) zc f809 fq795_0 fq795_1 fq795_2 fq795_3 fq795_4 fq795_5 fq795_6 f810 f811 f812 f813 hcd785 hbd785 (by simp) f797 f798 f799 f800 f801 f802 f803 f804 f805 f806 f807 f808 hcd43 hbd43 (by simp) f814 hzc (Ne.symm ne756_b17)) hZ (wd hw 65 rfl) (wd hw 12 rfl) (by decide) (by decide)) q817a q817c (g := (mkF m 628 #[lv p1, .second, lv p2, .second, lv p3, .second, lv p4, .second, iv p5, iv p6, rv b1, iv z1, iv z2, iv oi, iv oj, iv ch0, iv ch1, iv ch2, iv zB, iv 4, iv 0, rv b17, iv z1, rv b743, lv p1, .second, lv p4, .second, lv p3, .second, lv p4, .second, rv (own_o w oi), rv b756, iv ze, .unset] [(.ref b17), (.ref b756)])) rfl (by rw [hml]; rfl) (Steps.refl _) (argsL := [(.ref b17)]) (rest := []) (lenOf pd2 rfl) rfl (by show 2 * 0 + _ ≤ _; exact Nat.le_of_eq rfl) (hb hby at_628) (fun _ _ => ⟨rfl, e815, (by decide : 9 + 0 ≤ _), (by decide : 33 + 0 ≤ _)⟩)
          dsimp only [Pt.U, Pt.locs, Pt.cells, Pt.slots] at X817 l817 y817 z817 st817 hQ817
          subst l817 y817 z817
          rcases hQ817 with hQ817 | hQ817
          · obtain ⟨rfl, Nq817, e817, hS817⟩ := hQ817
            have N817 := Fr.app N815 Nq817
            refine Goes.tr st817 ?_
            refine Goes.by (fun _ kz => XS.iload X817.here hx rfl (hb hby at_631) rfl (XS.icmpNo X817.here hx rfl (hb hby at_633) rfl (teq hc816).2 (XS.iconst X817.here hx rfl (hb hby at_636) kz))) ?_
            show Goes p e below (T817.setTop (mkF m 637 #[lv p1, .second, lv p2, .second, lv p3, .second, lv p4, .second, iv p5, iv p6, rv b1, iv z1, iv z2, iv oi, iv oj, iv ch0, iv ch1, iv ch2, iv zB, iv 4, iv 0, rv b17, iv z1, rv b743, lv p1, .second, lv p4, .second, lv p3, .second, lv p4, .second, rv (own_o w oi), rv b756, iv ze, .unset] [(.int 1)])) _
            refine Goes.by (fun _ kz => XS.goto X817.here hx rfl (pc0 := 637) (pc' := 641) rfl (hb hby at_637) (by decide) (by decide) kz) ?_
            show Goes p e below (T817.setTop (mkF m 641 #[lv p1, .second, lv p2, .second, lv p3, .second, lv p4, .second, iv p5, iv p6, rv b1, iv z1, iv z2, iv oi, iv oj, iv ch0, iv ch1, iv ch2, iv zB, iv 4, iv 0, rv b17, iv z1, rv b743, lv p1, .second, lv p4, .second, lv p3, .second, lv p4, .second, rv (own_o w oi), rv b756, iv ze, .unset] [(.int 1)])) _
            obtain ⟨fs, hr, hrun, hended, hW, hsame⟩ := X817.leave (v := some (.int 1)) (fun h => by rw [Bd.returns] at h; cases h)
            exact ⟨_, _, retN X817 hx (t := .boolean) Bd.returns (by simp) (hb hby at_641) hr, hrun, hended, _, _, rfl, ⟨rfl, N817⟩, ⟨_, rfl⟩, hW, hsame.mono (by decide) (by decide)⟩
          · obtain ⟨rfl, Nq817, e817, hS817⟩ := hQ817
            have N817 := Fr.app N815 Nq817
            refine Goes.tr st817 ?_
            refine Goes.by (fun _ kz => XS.iload X817.here hx rfl (hb hby at_631) rfl (XS.icmpYes X817.here hx rfl (pc0 := 633) (pc' := 640) rfl (hb hby at_633) rfl (feq (by rw [← hc816]; decide : ¬ ((0 : Int32) = ze))).2 (by decide) (by decide) (XS.iconst X817.here hx rfl (hb hby at_640) kz))) ?_
            show Goes p e below (T817.setTop (mkF m 641 #[lv p1, .second, lv p2, .second, lv p3, .second, lv p4, .second, iv p5, iv p6, rv b1, iv z1, iv z2, iv oi, iv oj, iv ch0, iv ch1, iv ch2, iv zB, iv 4, iv 0, rv b17, iv z1, rv b743, lv p1, .second, lv p4, .second, lv p3, .second, lv p4, .second, rv (own_o w oi), rv b756, iv ze, .unset] [(.int 0)])) _
            exfalso
            rcases hze with ⟨hz, hC⟩ | ⟨hz, hC⟩
            · first | (rw [hz] at hc816; exact absurd hc816 (by decide)) | (revert hS817; simp [own_same, own_nb hz1, own_nb hz2, own_oinj pne01 pne02 pne12 h_oi h_oj, own_oinj pne01 pne02 pne12 h_oj h_oi, hC]; done)
            · first | (rw [hz] at hc816; exact absurd hc816 (by decide)) | (revert hS817; simp [own_same, own_nb hz1, own_nb hz2, own_oinj pne01 pne02 pne12 h_oi h_oj, own_oinj pne01 pne02 pne12 h_oj h_oi, hC, Ne.symm hC]; done)
        · refine Goes.by (fun _ kz => XS.icmpYes X815.here hx rfl (pc0 := 621) (pc' := 640) rfl (hb hby at_621) rfl (feq hc816).2 (by decide) (by decide) (XS.iconst X815.here hx rfl (hb hby at_640) kz)) ?_
          show Goes p e below (T815.setTop (mkF m 641 #[lv p1, .second, lv p2, .second, lv p3, .second, lv p4, .second, iv p5, iv p6, rv b1, iv z1, iv z2, iv oi, iv oj, iv ch0, iv ch1, iv ch2, iv zB, iv 4, iv 0, rv b17, iv z1, rv b743, lv p1, .second, lv p4, .second, lv p3, .second, lv p4, .second, rv (own_o w oi), rv b756, iv ze, .unset] [(.int 0)])) _
          exfalso
          rcases hze with ⟨hz, hC⟩ | ⟨hz, hC⟩
          · first | (rw [hz] at hc816; exact absurd hc816 (by decide)) | (revert hS815; simp [own_same, own_nb hz1, own_nb hz2, own_oinj pne01 pne02 pne12 h_oi h_oj, own_oinj pne01 pne02 pne12 h_oj h_oi, hC]; done)
          · first | (rw [hz] at hc816; exact absurd hc816 (by decide)) | (revert hS815; simp [own_same, own_nb hz1, own_nb hz2, own_oinj pne01 pne02 pne12 h_oi h_oj, own_oinj pne01 pne02 pne12 h_oj h_oi, hC, Ne.symm hC]; done)
      · obtain ⟨rfl, Nq815, e815, hS815⟩ := hQ815
        have N815 := Fr.app N795 Nq815
        refine Goes.tr st815 ?_
        refine Goes.by (fun _ kz => XS.iload X815.here hx rfl (hb hby at_619) rfl kz) ?_
        show Goes p e below (T815.setTop (mkF m 621 #[lv p1, .second, lv p2, .second, lv p3, .second, lv p4, .second, iv p5, iv p6, rv b1, iv z1, iv z2, iv oi, iv oj, iv ch0, iv ch1, iv ch2, iv zB, iv 4, iv 0, rv b17, iv z1, rv b743, lv p1, .second, lv p4, .second, lv p3, .second, lv p4, .second, rv (own_o w oi), rv b756, iv ze, .unset] [(.int ze), (.int 0)])) _
        by_cases hc818 : (0 : Int32) = ze
        · refine Goes.by (fun _ kz => XS.icmpNo X815.here hx rfl (hb hby at_621) rfl (teq hc818).2 (XS.aload X815.here hx rfl (hb hby at_624) rfl rfl (XS.aload X815.here hx rfl (hb hby at_626) rfl rfl kz))) ?_
          obtain ⟨cq819, kq819, q819a, q819b, q819c⟩ := isOf hZ e815 f809
          obtain ⟨_, _, ⟨T819, L819, k819, n819⟩, -, X819, ⟨Lc819, hQ819, l819, y819, z819⟩, st819⟩ := X815.virtualBack hx (y := (⟨"com/example/killdeer/killdeer/GadgetView", "equals", "(Ljava/lang/Object;)Z"⟩ : MethodName)) (z := (⟨"com/example/killdeer/killdeer/GadgetView", "equals", "(Ljava/lang/Object;)Z"⟩ : MethodName)) hown (mvT hZ (wd hw 61 rfl)) (mvT hZ (wd hw 62 rfl)) (notFace_of_selects (args := #[]) (mvT hZ (wd hw 64 rfl))) (mvT hZ (wd hw 64 rfl)) (mvT hZ (wd hw 63 rfl)) (by decide) (backOf (W := 0) (r8_0 l Z a0 hw [] T795.heap n0 Z795 b756 b17 (nar .boolean z1) (nar .boolean z1) b764 b21 t786 t44 kb786 kb44 ([ch0, ch1] : List Int32) ([ch0, ch1] : List Int32) (2 : Int32) (2 : Int32) ((([ch0, ch1] : List Int32).map (fun c => c.toInt8.toInt32)).map Value.int) ((([ch0, ch1] : List Int32).map (fun c => c.toInt8.toInt32)).map Value.int) p1 p1 p4 p2 p3 p3 p4 p4 (own_o w oi) (own_o w oi) zc f809 fq795_0 fq795_1 fq795_2 fq795_3 fq795_4 fq795_5 fq795_6 f810 f811 f812 f813 hcd785 hbd785 (by simp) f797 f798 f799 f800 f801 f802 f803 f804 f805 f806 f807 f808 hcd43 hbd43 (by simp) f814 hzc (Ne.symm ne756_b17)) hZ (wd hw 65 rfl) (wd hw 12 rfl) (by decide) (by decide)) q819a q819c (g := (mkF m 628 #[lv p1, .second, lv p2, .second, lv p3, .second, lv p4, .second, iv p5, iv p6, rv b1, iv z1, iv z2, iv oi, iv oj, iv ch0, iv ch1, iv ch2, iv zB, iv 4, iv 0, rv b17, iv z1, rv b743, lv p1, .second, lv p4, .second, lv p3, .second, lv p4, .second, rv (own_o w oi), rv b756, iv ze, .unset] [(.ref b17), (.ref b756)])) rfl (by rw [hml]; rfl) (Steps.refl _) (argsL := [(.ref b17)]) (rest := []) (lenOf pd2 rfl) rfl (by show 2 * 0 + _ ≤ _; exact Nat.le_of_eq rfl) (hb hby at_628) (fun _ _ => ⟨rfl, e815, (by decide : 9 + 0 ≤ _), (by decide : 33 + 0 ≤ _)⟩)
          dsimp only [Pt.U, Pt.locs, Pt.cells, Pt.slots] at X819 l819 y819 z819 st819 hQ819
          subst l819 y819 z819
          rcases hQ819 with hQ819 | hQ819
          · obtain ⟨rfl, Nq819, e819, hS819⟩ := hQ819
            have N819 := Fr.app N815 Nq819
            refine Goes.tr st819 ?_
            refine Goes.by (fun _ kz => XS.iload X819.here hx rfl (hb hby at_631) rfl (XS.icmpYes X819.here hx rfl (pc0 := 633) (pc' := 640) rfl (hb hby at_633) rfl (feq (by rw [← hc818]; decide : ¬ ((1 : Int32) = ze))).2 (by decide) (by decide) (XS.iconst X819.here hx rfl (hb hby at_640) kz))) ?_
            show Goes p e below (T819.setTop (mkF m 641 #[lv p1, .second, lv p2, .second, lv p3, .second, lv p4, .second, iv p5, iv p6, rv b1, iv z1, iv z2, iv oi, iv oj, iv ch0, iv ch1, iv ch2, iv zB, iv 4, iv 0, rv b17, iv z1, rv b743, lv p1, .second, lv p4, .second, lv p3, .second, lv p4, .second, rv (own_o w oi), rv b756, iv ze, .unset] [(.int 0)])) _
            exfalso
            rcases hze with ⟨hz, hC⟩ | ⟨hz, hC⟩
            · first | (rw [hz] at hc818; exact absurd hc818 (by decide)) | (revert hS819; simp [own_same, own_nb hz1, own_nb hz2, own_oinj pne01 pne02 pne12 h_oi h_oj, own_oinj pne01 pne02 pne12 h_oj h_oi, hC]; done)
            · first | (rw [hz] at hc818; exact absurd hc818 (by decide)) | (revert hS819; simp [own_same, own_nb hz1, own_nb hz2, own_oinj pne01 pne02 pne12 h_oi h_oj, own_oinj pne01 pne02 pne12 h_oj h_oi, hC, Ne.symm hC]; done)
          · obtain ⟨rfl, Nq819, e819, hS819⟩ := hQ819
            have N819 := Fr.app N815 Nq819
            refine Goes.tr st819 ?_
            refine Goes.by (fun _ kz => XS.iload X819.here hx rfl (hb hby at_631) rfl (XS.icmpNo X819.here hx rfl (hb hby at_633) rfl (teq hc818).2 (XS.iconst X819.here hx rfl (hb hby at_636) kz))) ?_
            show Goes p e below (T819.setTop (mkF m 637 #[lv p1, .second, lv p2, .second, lv p3, .second, lv p4, .second, iv p5, iv p6, rv b1, iv z1, iv z2, iv oi, iv oj, iv ch0, iv ch1, iv ch2, iv zB, iv 4, iv 0, rv b17, iv z1, rv b743, lv p1, .second, lv p4, .second, lv p3, .second, lv p4, .second, rv (own_o w oi), rv b756, iv ze, .unset] [(.int 1)])) _
            refine Goes.by (fun _ kz => XS.goto X819.here hx rfl (pc0 := 637) (pc' := 641) rfl (hb hby at_637) (by decide) (by decide) kz) ?_
            show Goes p e below (T819.setTop (mkF m 641 #[lv p1, .second, lv p2, .second, lv p3, .second, lv p4, .second, iv p5, iv p6, rv b1, iv z1, iv z2, iv oi, iv oj, iv ch0, iv ch1, iv ch2, iv zB, iv 4, iv 0, rv b17, iv z1, rv b743, lv p1, .second, lv p4, .second, lv p3, .second, lv p4, .second, rv (own_o w oi), rv b756, iv ze, .unset] [(.int 1)])) _
            obtain ⟨fs, hr, hrun, hended, hW, hsame⟩ := X819.leave (v := some (.int 1)) (fun h => by rw [Bd.returns] at h; cases h)
            exact ⟨_, _, retN X819 hx (t := .boolean) Bd.returns (by simp) (hb hby at_641) hr, hrun, hended, _, _, rfl, ⟨rfl, N819⟩, ⟨_, rfl⟩, hW, hsame.mono (by decide) (by decide)⟩
        · refine Goes.by (fun _ kz => XS.icmpYes X815.here hx rfl (pc0 := 621) (pc' := 640) rfl (hb hby at_621) rfl (feq hc818).2 (by decide) (by decide) (XS.iconst X815.here hx rfl (hb hby at_640) kz)) ?_
          show Goes p e below (T815.setTop (mkF m 641 #[lv p1, .second, lv p2, .second, lv p3, .second, lv p4, .second, iv p5, iv p6, rv b1, iv z1, iv z2, iv oi, iv oj, iv ch0, iv ch1, iv ch2, iv zB, iv 4, iv 0, rv b17, iv z1, rv b743, lv p1, .second, lv p4, .second, lv p3, .second, lv p4, .second, rv (own_o w oi), rv b756, iv ze, .unset] [(.int 0)])) _
          exfalso
          rcases hze with ⟨hz, hC⟩ | ⟨hz, hC⟩
          · first | (rw [hz] at hc818; exact absurd hc818 (by decide)) | (revert hS815; simp [own_same, own_nb hz1, own_nb hz2, own_oinj pne01 pne02 pne12 h_oi h_oj, own_oinj pne01 pne02 pne12 h_oj h_oi, hC]; done)
          · first | (rw [hz] at hc818; exact absurd hc818 (by decide)) | (revert hS815; simp [own_same, own_nb hz1, own_nb hz2, own_oinj pne01 pne02 pne12 h_oi h_oj, own_oinj pne01 pne02 pne12 h_oj h_oi, hC, Ne.symm hC]; done)
    · show Goes p e below (T795.setTop (mkF m 538 #[lv p1, .second, lv p2, .second, lv p3, .second, lv p4, .second, iv p5, iv p6, rv b1, iv z1, iv z2, iv oi, iv oj, iv ch0, iv ch1, iv ch2, iv zB, iv 4, iv 1, rv b17, iv z1, rv b743, lv p1, .second, lv p4, .second, lv p3, .second, lv p4, .second, rv (own_o w oi), rv b756, iv ze, .unset] [])) _
      refine Goes.by (fun _ kz => XS.iload X795.here hx rfl (hb hby at_538) rfl (XS.iconst X795.here hx rfl (hb hby at_540) (XS.icmpNo X795.here hx rfl (hb hby at_541) rfl (teq (by decide : (1 : Int32) = (1 : Int32))).2 kz))) ?_
      show Goes p e below (T795.setTop (mkF m 544 #[lv p1, .second, lv p2, .second, lv p3, .second, lv p4, .second, iv p5, iv p6, rv b1, iv z1, iv z2, iv oi, iv oj, iv ch0, iv ch1, iv ch2, iv zB, iv 4, iv 1, rv b17, iv z1, rv b743, lv p1, .second, lv p4, .second, lv p3, .second, lv p4, .second, rv (own_o w oi), rv b756, iv ze, .unset] [])) _
      refine Goes.by (fun _ kz => XS.aload X795.here hx rfl (hb hby at_544) rfl rfl (XS.aload X795.here hx rfl (hb hby at_546) rfl rfl kz)) ?_
      have f821 := ((f780.keep Kq786).keep Kq795)
      obtain ⟨cq820, kq820, q820a, q820b, q820c⟩ := isOf hZ rfl f821
      obtain ⟨_, _, ⟨T820, L820, k820, n820⟩, -, X820, ⟨Lc820, hQ820, l820, y820, z820⟩, st820⟩ := X795.virtualBack hx (y := (⟨"com/example/killdeer/killdeer/GadgetView", "equals", "(Ljava/lang/Object;)Z"⟩ : MethodName)) (z := (⟨"com/example/killdeer/killdeer/GadgetView", "equals", "(Ljava/lang/Object;)Z"⟩ : MethodName)) hown (mvT hZ (wd hw 61 rfl)) (mvT hZ (wd hw 62 rfl)) (notFace_of_selects (args := #[]) (mvT hZ (wd hw 64 rfl))) (mvT hZ (wd hw 64 rfl)) (mvT hZ (wd hw 63 rfl)) (by decide) (backOf (W := 0) (r8_same l Z a0 hw [] T795.heap n0 Z795 b17) hZ (wd hw 65 rfl) (wd hw 12 rfl) (by decide) (by decide)) q820a q820c (g := (mkF m 548 #[lv p1, .second, lv p2, .second, lv p3, .second, lv p4, .second, iv p5, iv p6, rv b1, iv z1, iv z2, iv oi, iv oj, iv ch0, iv ch1, iv ch2, iv zB, iv 4, iv 1, rv b17, iv z1, rv b743, lv p1, .second, lv p4, .second, lv p3, .second, lv p4, .second, rv (own_o w oi), rv b756, iv ze, .unset] [(.ref b17), (.ref b17)])) rfl (by rw [hml]; rfl) (Steps.refl _) (argsL := [(.ref b17)]) (rest := []) (lenOf pd2 rfl) rfl (by show 2 * 0 + _ ≤ _; exact Nat.le_of_eq rfl) (hb hby at_548) (fun _ _ => ⟨rfl, rfl, (by decide : 9 + 0 ≤ _), (by decide : 33 + 0 ≤ _)⟩)
      dsimp only [Pt.U, Pt.locs, Pt.cells, Pt.slots] at X820 l820 y820 z820 st820 hQ820
      subst l820 y820 z820
      obtain ⟨rfl, Nq820, e820⟩ := hQ820
      have N820 := Fr.app N795 Nq820
      refine Goes.tr st820 ?_
      show Goes p e below (T820.setTop (mkF m 551 #[lv p1, .second, lv p2, .second, lv p3, .second, lv p4, .second, iv p5, iv p6, rv b1, iv z1, iv z2, iv oi, iv oj, iv ch0, iv ch1, iv ch2, iv zB, iv 4, iv 1, rv b17, iv z1, rv b743, lv p1, .second, lv p4, .second, lv p3, .second, lv p4, .second, rv (own_o w oi), rv b756, iv ze, .unset] [(.int 1)])) _
      obtain ⟨fs, hr, hrun, hended, hW, hsame⟩ := X820.leave (v := some (.int 1)) (fun h => by rw [Bd.returns] at h; cases h)
      exact ⟨_, _, retN X820 hx (t := .boolean) Bd.returns (by simp) (hb hby at_551) hr, hrun, hended, _, _, rfl, ⟨rfl, N820⟩, ⟨_, rfl⟩, hW, hsame.mono (by decide) (by decide)⟩
    · show Goes p e below (T795.setTop (mkF m 538 #[lv p1, .second, lv p2, .second, lv p3, .second, lv p4, .second, iv p5, iv p6, rv b1, iv z1, iv z2, iv oi, iv oj, iv ch0, iv ch1, iv ch2, iv zB, iv 4, iv 2, rv b17, iv z1, rv b743, lv p1, .second, lv p4, .second, lv p3, .second, lv p4, .second, rv (own_o w oi), rv b756, iv ze, .unset] [])) _
      refine Goes.by (fun _ kz => XS.iload X795.here hx rfl (hb hby at_538) rfl (XS.iconst X795.here hx rfl (hb hby at_540) (XS.icmpYes X795.here hx rfl (pc0 := 541) (pc' := 552) rfl (hb hby at_541) rfl (feq (by decide : ¬ ((2 : Int32) = (1 : Int32)))).2 (by decide) (by decide) kz))) ?_
      show Goes p e below (T795.setTop (mkF m 552 #[lv p1, .second, lv p2, .second, lv p3, .second, lv p4, .second, iv p5, iv p6, rv b1, iv z1, iv z2, iv oi, iv oj, iv ch0, iv ch1, iv ch2, iv zB, iv 4, iv 2, rv b17, iv z1, rv b743, lv p1, .second, lv p4, .second, lv p3, .second, lv p4, .second, rv (own_o w oi), rv b756, iv ze, .unset] [])) _
      refine Goes.by (fun _ kz => XS.iload X795.here hx rfl (hb hby at_552) rfl (XS.iconst X795.here hx rfl (hb hby at_554) (XS.icmpNo X795.here hx rfl (hb hby at_555) rfl (teq (by decide : (2 : Int32) = (2 : Int32))).2 kz))) ?_
      show Goes p e below (T795.setTop (mkF m 558 #[lv p1, .second, lv p2, .second, lv p3, .second, lv p4, .second, iv p5, iv p6, rv b1, iv z1, iv z2, iv oi, iv oj, iv ch0, iv ch1, iv ch2, iv zB, iv 4, iv 2, rv b17, iv z1, rv b743, lv p1, .second, lv p4, .second, lv p3, .second, lv p4, .second, rv (own_o w oi), rv b756, iv ze, .unset] [])) _
      refine Goes.by (fun _ kz => XS.aload X795.here hx rfl (hb hby at_558) rfl rfl (XS.aconstNull X795.here hx rfl (hb hby at_560) kz)) ?_
      have f823 := ((f780.keep Kq786).keep Kq795)
      obtain ⟨cq822, kq822, q822a, q822b, q822c⟩ := isOf hZ rfl f823
      obtain ⟨_, _, ⟨T822, L822, k822, n822⟩, -, X822, ⟨Lc822, hQ822, l822, y822, z822⟩, st822⟩ := X795.virtualBack hx (y := (⟨"com/example/killdeer/killdeer/GadgetView", "equals", "(Ljava/lang/Object;)Z"⟩ : MethodName)) (z := (⟨"com/example/killdeer/killdeer/GadgetView", "equals", "(Ljava/lang/Object;)Z"⟩ : MethodName)) hown (mvT hZ (wd hw 61 rfl)) (mvT hZ (wd hw 62 rfl)) (notFace_of_selects (args := #[]) (mvT hZ (wd hw 64 rfl))) (mvT hZ (wd hw 64 rfl)) (mvT hZ (wd hw 63 rfl)) (by decide) (backOf (W := 0) (r8_null l Z a0 hw [] T795.heap n0 Z795 b17) hZ (wd hw 65 rfl) (wd hw 12 rfl) (by decide) (by decide)) q822a q822c (g := (mkF m 561 #[lv p1, .second, lv p2, .second, lv p3, .second, lv p4, .second, iv p5, iv p6, rv b1, iv z1, iv z2, iv oi, iv oj, iv ch0, iv ch1, iv ch2, iv zB, iv 4, iv 2, rv b17, iv z1, rv b743, lv p1, .second, lv p4, .second, lv p3, .second, lv p4, .second, rv (own_o w oi), rv b756, iv ze, .unset] [.null, (.ref b17)])) rfl (by rw [hml]; rfl) (Steps.refl _) (argsL := [.null]) (rest := []) (lenOf pd2 rfl) rfl (by show 2 * 0 + _ ≤ _; exact Nat.le_of_eq rfl) (hb hby at_561) (fun _ _ => ⟨rfl, rfl, (by decide : 9 + 0 ≤ _), (by decide : 33 + 0 ≤ _)⟩)
      dsimp only [Pt.U, Pt.locs, Pt.cells, Pt.slots] at X822 l822 y822 z822 st822 hQ822
      subst l822 y822 z822
      obtain ⟨rfl, Nq822, e822⟩ := hQ822
      have N822 := Fr.app N795 Nq822
      refine Goes.tr st822 ?_
      refine Goes.by (fun _ kz => XS.ifNo X822.here hx rfl (hb hby at_564) rfl ((if0 _ _).trans (teq (by decide : (0 : Int32) = (0 : Int32))).2) (XS.iconst X822.here hx rfl (hb hby at_567) (XS.goto X822.here hx rfl (pc0 := 568) (pc' := 572) rfl (hb hby at_568) (by decide) (by decide) kz))) ?_
      show Goes p e below (T822.setTop (mkF m 572 #[lv p1, .second, lv p2, .second, lv p3, .second, lv p4, .second, iv p5, iv p6, rv b1, iv z1, iv z2, iv oi, iv oj, iv ch0, iv ch1, iv ch2, iv zB, iv 4, iv 2, rv b17, iv z1, rv b743, lv p1, .second, lv p4, .second, lv p3, .second, lv p4, .second, rv (own_o w oi), rv b756, iv ze, .unset] [(.int 1)])) _
      obtain ⟨fs, hr, hrun, hended, hW, hsame⟩ := X822.leave (v := some (.int 1)) (fun h => by rw [Bd.returns] at h; cases h)
      exact ⟨_, _, retN X822 hx (t := .boolean) Bd.returns (by simp) (hb hby at_572) hr, hrun, hended, _, _, rfl, ⟨rfl, N822⟩, ⟨_, rfl⟩, hW, hsame.mono (by decide) (by decide)⟩
    · show Goes p e below (T795.setTop (mkF m 538 #[lv p1, .second, lv p2, .second, lv p3, .second, lv p4, .second, iv p5, iv p6, rv b1, iv z1, iv z2, iv oi, iv oj, iv ch0, iv ch1, iv ch2, iv zB, iv 4, iv 3, rv b17, iv z1, rv b743, lv p1, .second, lv p4, .second, lv p3, .second, lv p4, .second, rv (own_o w oi), rv b756, iv ze, .unset] [])) _
      refine Goes.by (fun _ kz => XS.iload X795.here hx rfl (hb hby at_538) rfl (XS.iconst X795.here hx rfl (hb hby at_540) (XS.icmpYes X795.here hx rfl (pc0 := 541) (pc' := 552) rfl (hb hby at_541) rfl (feq (by decide : ¬ ((3 : Int32) = (1 : Int32)))).2 (by decide) (by decide) kz))) ?_
      show Goes p e below (T795.setTop (mkF m 552 #[lv p1, .second, lv p2, .second, lv p3, .second, lv p4, .second, iv p5, iv p6, rv b1, iv z1, iv z2, iv oi, iv oj, iv ch0, iv ch1, iv ch2, iv zB, iv 4, iv 3, rv b17, iv z1, rv b743, lv p1, .second, lv p4, .second, lv p3, .second, lv p4, .second, rv (own_o w oi), rv b756, iv ze, .unset] [])) _
      refine Goes.by (fun _ kz => XS.iload X795.here hx rfl (hb hby at_552) rfl (XS.iconst X795.here hx rfl (hb hby at_554) (XS.icmpYes X795.here hx rfl (pc0 := 555) (pc' := 573) rfl (hb hby at_555) rfl (feq (by decide : ¬ ((3 : Int32) = (2 : Int32)))).2 (by decide) (by decide) kz))) ?_
      show Goes p e below (T795.setTop (mkF m 573 #[lv p1, .second, lv p2, .second, lv p3, .second, lv p4, .second, iv p5, iv p6, rv b1, iv z1, iv z2, iv oi, iv oj, iv ch0, iv ch1, iv ch2, iv zB, iv 4, iv 3, rv b17, iv z1, rv b743, lv p1, .second, lv p4, .second, lv p3, .second, lv p4, .second, rv (own_o w oi), rv b756, iv ze, .unset] [])) _
      refine Goes.by (fun _ kz => XS.iload X795.here hx rfl (hb hby at_573) rfl (XS.iconst X795.here hx rfl (hb hby at_575) (XS.icmpNo X795.here hx rfl (hb hby at_576) rfl (teq (by decide : (3 : Int32) = (3 : Int32))).2 kz))) ?_
      have f825 := ((f776.keep Kq786).keep Kq795)
      have f826 := ((f777.keep Kq786).keep Kq795)
      have f827 := ((f778.keep Kq786).keep Kq795)
      have f828 := ((f779.keep Kq786 (ninS ne764_b1 nin0)).keep Kq795 (ninS ne756_b1 nin0))
      have f829 := ((f780.keep Kq786).keep Kq795)
      have f830 := ((f781.keep Kq786).keep Kq795)
      have f831 := ((f782.keep Kq786 (ninS ne764_b26 nin0)).keep Kq795 (ninS ne756_b26 nin0))
      have f832 := ((f783.keep Kq786 (ninS ne764_t44 nin0)).keep Kq795 (ninS ne756_t44 nin0))
      have f833 := ((f774.keep Kq786 (ninS ne764_b743 nin0)).keep Kq795 (ninS ne756_b743 nin0))
      have f834 := (f787.keep Kq795)
      have f835 := ((A764.keep Kq786).keep Kq795)
      have f836 := (gA786.keep Kq795 (ninS (Ne.symm net786_b756) nin0))
      obtain ⟨T824, h824, X824, e824, E824, A824, D824, -, st824⟩ := newO X795 hx hZ hown (wd hw 13 rfl) (wd hw 14 rfl) (wd hw 15 rfl) rfl (g := (mkF m 579 #[lv p1, .second, lv p2, .second, lv p3, .second, lv p4, .second, iv p5, iv p6, rv b1, iv z1, iv z2, iv oi, iv oj, iv ch0, iv ch1, iv ch2, iv zB, iv 4, iv 3, rv b17, iv z1, rv b743, lv p1, .second, lv p4, .second, lv p3, .second, lv p4, .second, rv (own_o w oi), rv b756, iv ze, .unset] [])) rfl (hb hby at_579) (by decide) (by decide)
      obtain ⟨b824, g824⟩ : ∃ z, z = T795.heap.size := ⟨_, rfl⟩
      rw [← g824] at A824 D824 st824
      have ne824__w_0_ : (w 0) ≠ b824 := Nat.ne_of_lt (Nat.lt_of_lt_of_le f825.lt (Nat.le_of_eq g824.symm))
      have ne824__w_1_ : (w 1) ≠ b824 := Nat.ne_of_lt (Nat.lt_of_lt_of_le f826.lt (Nat.le_of_eq g824.symm))
      have ne824__w_2_ : (w 2) ≠ b824 := Nat.ne_of_lt (Nat.lt_of_lt_of_le f827.lt (Nat.le_of_eq g824.symm))
      have ne824_b1 : b1 ≠ b824 := Nat.ne_of_lt (Nat.lt_of_lt_of_le f828.lt (Nat.le_of_eq g824.symm))
      have ne824_b17 : b17 ≠ b824 := Nat.ne_of_lt (Nat.lt_of_lt_of_le f829.lt (Nat.le_of_eq g824.symm))
      have ne824_b21 : b21 ≠ b824 := Nat.ne_of_lt (Nat.lt_of_lt_of_le f830.lt (Nat.le_of_eq g824.symm))
      have ne824_b26 : b26 ≠ b824 := Nat.ne_of_lt (Nat.lt_of_lt_of_le f831.lt (Nat.le_of_eq g824.symm))
      have ne824_t44 : t44 ≠ b824 := Nat.ne_of_lt (Nat.lt_of_lt_of_le f832.lt (Nat.le_of_eq g824.symm))
      have ne824_b743 : b743 ≠ b824 := Nat.ne_of_lt (Nat.lt_of_lt_of_le f833.lt (Nat.le_of_eq g824.symm))
      have ne824_b756 : b756 ≠ b824 := Nat.ne_of_lt (Nat.lt_of_lt_of_le f834.lt (Nat.le_of_eq g824.symm))
      have ne824_b764 : b764 ≠ b824 := Nat.ne_of_lt (Nat.lt_of_lt_of_le f835.lt (Nat.le_of_eq g824.symm))
      have ne824_t786 : t786 ≠ b824 := Nat.ne_of_lt (Nat.lt_of_lt_of_le f836.lt (Nat.le_of_eq g824.symm))
      have g_b824 : n0 ≤ b824 := Nat.le_trans Z795 (Nat.le_of_eq g824.symm)
      have sz_b824 : h0.size ≤ b824 := Nat.le_trans K795.1 (Nat.le_of_eq g824.symm)
      have F824_coder : Fld Z h824 b824 "java/lang/String" "coder" "B" (.int 0) := D824 (Or.inr (wd hw 40 rfl)) (ty := .byte) (by decide)
      have F824_value : Fld Z h824 b824 "java/lang/String" "value" "[B" .null := D824 (Or.inr (wd hw 42 rfl)) (ty := (.array .byte)) (by decide)
      have K824 : Keep h0 h824 [] := Keep.ext K795 E824
      have Z824 : n0 ≤ h824.size := Nat.le_trans Z795 E824.1
      refine Goes.by st824 ?_
      refine Goes.by (fun _ kz => XS.dup X824.here hx rfl (hb hby at_582) rfl rfl (XS.iconst X824.here hx rfl (hb hby at_583) kz)) ?_
      have f838 := (f825.ext E824)
      have f839 := (f826.ext E824)
      have f840 := (f827.ext E824)
      have f841 := (f828.ext E824)
      have f842 := (f829.ext E824)
      have f843 := (f830.ext E824)
      have f844 := (f831.ext E824)
      have f845 := (f832.ext E824)
      have f846 := (f833.ext E824)
      have f847 := (f834.ext E824)
      have f848 := (f835.ext E824)
      have f849 := (f836.ext E824)
      obtain ⟨T837, h837, k837, X837, e837, E837, A837, st837⟩ := newP X824 hx hZ (wd hw 16 rfl) e824 (g := (mkF m 584 #[lv p1, .second, lv p2, .second, lv p3, .second, lv p4, .second, iv p5, iv p6, rv b1, iv z1, iv z2, iv oi, iv oj, iv ch0, iv ch1, iv ch2, iv zB, iv 4, iv 3, rv b17, iv z1, rv b743, lv p1, .second, lv p4, .second, lv p3, .second, lv p4, .second, rv (own_o w oi), rv b756, iv ze, .unset] [(.int 1), (.ref b824), (.ref b824)])) rfl (hb hby at_584) rfl (by decide) (cap := 1) (by decide) (by decide) (by decide) (by decide)
      obtain ⟨b837, g837⟩ : ∃ z, z = h824.size := ⟨_, rfl⟩
      rw [← g837] at A837 st837
      have ne837__w_0_ : (w 0) ≠ b837 := Nat.ne_of_lt (Nat.lt_of_lt_of_le f838.lt (Nat.le_of_eq g837.symm))
      have ne837__w_1_ : (w 1) ≠ b837 := Nat.ne_of_lt (Nat.lt_of_lt_of_le f839.lt (Nat.le_of_eq g837.symm))
      have ne837__w_2_ : (w 2) ≠ b837 := Nat.ne_of_lt (Nat.lt_of_lt_of_le f840.lt (Nat.le_of_eq g837.symm))
      have ne837_b1 : b1 ≠ b837 := Nat.ne_of_lt (Nat.lt_of_lt_of_le f841.lt (Nat.le_of_eq g837.symm))
      have ne837_b17 : b17 ≠ b837 := Nat.ne_of_lt (Nat.lt_of_lt_of_le f842.lt (Nat.le_of_eq g837.symm))
      have ne837_b21 : b21 ≠ b837 := Nat.ne_of_lt (Nat.lt_of_lt_of_le f843.lt (Nat.le_of_eq g837.symm))
      have ne837_b26 : b26 ≠ b837 := Nat.ne_of_lt (Nat.lt_of_lt_of_le f844.lt (Nat.le_of_eq g837.symm))
      have ne837_t44 : t44 ≠ b837 := Nat.ne_of_lt (Nat.lt_of_lt_of_le f845.lt (Nat.le_of_eq g837.symm))
      have ne837_b743 : b743 ≠ b837 := Nat.ne_of_lt (Nat.lt_of_lt_of_le f846.lt (Nat.le_of_eq g837.symm))
      have ne837_b756 : b756 ≠ b837 := Nat.ne_of_lt (Nat.lt_of_lt_of_le f847.lt (Nat.le_of_eq g837.symm))
      have ne837_b764 : b764 ≠ b837 := Nat.ne_of_lt (Nat.lt_of_lt_of_le f848.lt (Nat.le_of_eq g837.symm))
      have ne837_t786 : t786 ≠ b837 := Nat.ne_of_lt (Nat.lt_of_lt_of_le f849.lt (Nat.le_of_eq g837.symm))
      have ne837_b824 : b824 ≠ b837 := Nat.ne_of_lt (Nat.lt_of_lt_of_le A824.lt (Nat.le_of_eq g837.symm))
      have g_b837 : n0 ≤ b837 := Nat.le_trans Z824 (Nat.le_of_eq g837.symm)
      have sz_b837 : h0.size ≤ b837 := Nat.le_trans K824.1 (Nat.le_of_eq g837.symm)
      have V837 : Arv Z h837 b837 k837 .char (1 : Int32) [(.int 0)] (.int 0) := (Arv.new A837 (by decide)).pad (pad_rep [] (.int 0) 1)
      have K837 : Keep h0 h837 [] := Keep.ext K824 E837
      have Z837 : n0 ≤ h837.size := Nat.le_trans Z824 E837.1
      refine Goes.by st837 ?_
      refine Goes.by (fun _ kz => XS.dup X837.here hx rfl (hb hby at_586) rfl rfl (XS.iconst X837.here hx rfl (hb hby at_587) (XS.iload X837.here hx rfl (hb hby at_588) rfl kz))) ?_
      obtain ⟨cl850, Ar850, Cq850, Sz850, Nn850, Hh850, Gg850⟩ := id V837
      have hin850 : ¬ ((0 : Int32) < 0 ∨ cl850.slots.size ≤ ((0 : Int32)).toNatClampNeg) := inb_of Sz850 ⟨by decide, by decide⟩
      obtain ⟨T850, h850, X850, e850, W850, st850⟩ := stC X837 hx hZ e837 Ar850 (j := (0 : Int32)) hin850 (g := (mkF m 590 #[lv p1, .second, lv p2, .second, lv p3, .second, lv p4, .second, iv p5, iv p6, rv b1, iv z1, iv z2, iv oi, iv oj, iv ch0, iv ch1, iv ch2, iv zB, iv 4, iv 3, rv b17, iv z1, rv b743, lv p1, .second, lv p4, .second, lv p3, .second, lv p4, .second, rv (own_o w oi), rv b756, iv ze, .unset] [(.int ch0), (.int 0), (.ref b837), (.ref b837), (.ref b824), (.ref b824)])) rfl rfl (hb hby at_590)
      have V850 : Arv Z h850 b837 k837 .char (1 : Int32) [(.int (nar .char ch0))] (.int 0) := Arv.set Ar850 Cq850 Sz850 Nn850 Hh850 Gg850 (fits_nar_char _) W850 0 rfl (Nat.le_of_ble_eq_true rfl)
      rw [hn_ch0] at V850
      have K850 : Keep h0 h850 [] := Keep.wr K837 W850 (Or.inr sz_b837)
      have Z850 : n0 ≤ h850.size := Nat.le_trans Z837 (Keep.of_wr W850).1
      have N850 := Fr.snoc X850 N795 g_b837
      refine Goes.by st850 ?_
      show Goes p e below (T850.setTop (mkF m 591 #[lv p1, .second, lv p2, .second, lv p3, .second, lv p4, .second, iv p5, iv p6, rv b1, iv z1, iv z2, iv oi, iv oj, iv ch0, iv ch1, iv ch2, iv zB, iv 4, iv 3, rv b17, iv z1, rv b743, lv p1, .second, lv p4, .second, lv p3, .second, lv p4, .second, rv (own_o w oi), rv b756, iv ze, .unset] [(.ref b837), (.ref b824), (.ref b824)])) _
      have f851 := (Exa.wr W850 (A824.ext E837))
      have f852 := (Fld.other W850 (F824_value.ext E837) (Or.inl ne837_b824))
      have f853 := (Fld.other W850 (F824_coder.ext E837) (Or.inl ne837_b824))
      have f854 := (Sta.wr W850 (((own_staKeep (own_staKeep f775 Kq786 (allS (own_nsE A764) all0)) Kq795 (allS (own_nsE f787) all0)).ext E824).ext E837))
      have f855 := (Exa.wr W850 (f838.ext E837))
      have f856 := (Exa.wr W850 (f839.ext E837))
      have f857 := (Exa.wr W850 (f840.ext E837))
      have f858 := ((f841.ext E837).other W850 ne837_b1)
      have f859 := (Exa.wr W850 (f842.ext E837))
      have f860 := (Exa.wr W850 (f843.ext E837))
      have f861 := ((f844.ext E837).other W850 ne837_b26)
      have f862 := ((f845.ext E837).other W850 ne837_t44)
      have f863 := ((f846.ext E837).other W850 ne837_b743)
      have f864 := (Exa.wr W850 (f847.ext E837))
      have f865 := (Exa.wr W850 (f848.ext E837))
      have f866 := ((f849.ext E837).other W850 ne837_t786)
      have hp867 : ∀ c ∈ ([ch0] : List Int32), ¬ c < 0 ∧ ¬ (255 : Int32) < c := by
        intro c hc; simp only [List.mem_cons, List.not_mem_nil, or_false] at hc
        rw [hc]; exact hb_ch0
      have hcd867 : StrChars.Road.CodA ([ch0] : List Int32) 0 (1 : Int32) ((([ch0] : List Int32).map (fun c => c.toInt8.toInt32)).map Value.int) := StrChars.Road.codOf (n := 1) rfl (fun c hc => (hp867 c hc).2)
      have hbd867 := own_up _ hp867
      obtain ⟨_, _, ⟨T868, L868, k868, n868⟩, -, X868, ⟨Lc868, hQ868, l868, y868, z868⟩, st868⟩ := X850.specialBack hx (y := (⟨"java/lang/String", "<init>", "([C)V"⟩ : MethodName)) rfl hown (mvT hZ (wd hw 17 rfl)) (mvT hZ (wd hw 18 rfl)) (mvT hZ (wd hw 19 rfl)) (by decide) (StrChars.Road.backV (W := 1) hZ hws (kI := 4) (wd hw 14 rfl) (cs := ([ch0] : List Int32)) (bs := (([ch0] : List Int32).map (fun c => c.toInt8.toInt32))) (n := 1) g_b824 Z850 f851 f852 f853 V850 f854 hzc rfl rfl (by decide) (by decide) hp867 rfl (by decide) (by decide)) (g := (mkF m 591 #[lv p1, .second, lv p2, .second, lv p3, .second, lv p4, .second, iv p5, iv p6, rv b1, iv z1, iv z2, iv oi, iv oj, iv ch0, iv ch1, iv ch2, iv zB, iv 4, iv 3, rv b17, iv z1, rv b743, lv p1, .second, lv p4, .second, lv p3, .second, lv p4, .second, rv (own_o w oi), rv b756, iv ze, .unset] [(.ref b837), (.ref b824), (.ref b824)])) rfl (by rw [hml]; rfl) (Steps.refl _) (a := b824) (argsL := [(.ref b837)]) (rest := [(.ref b824)]) (lenOf pd0 rfl) rfl (by show 2 * 0 + _ ≤ _; exact Nat.le_of_eq rfl) (hb hby at_591) (fun _ _ => ⟨rfl, e850, (by decide : 11 + 1 ≤ _), (by decide : 38 + 1 ≤ _)⟩)
      dsimp only [Pt.U, Pt.locs, Pt.cells, Pt.slots] at X868 l868 y868 z868 st868 hQ868
      subst l868 y868 z868
      obtain ⟨rfl, Nq868, Kq868, gE868, gC868, t868, kb868, u1_868, u2_868, u3_868, gV868, gA868⟩ := hQ868
      have K868 : Keep h0 T868.heap [] := Keep.trans K850 Kq868 (allS (Or.inr sz_b824) all0)
      have Z868 : n0 ≤ T868.heap.size := Nat.le_trans Z850 Kq868.1
      have net868__w_0_ : (w 0) ≠ t868 := Nat.ne_of_lt (Nat.lt_of_lt_of_le f855.lt u2_868)
      have net868__w_1_ : (w 1) ≠ t868 := Nat.ne_of_lt (Nat.lt_of_lt_of_le f856.lt u2_868)
      have net868__w_2_ : (w 2) ≠ t868 := Nat.ne_of_lt (Nat.lt_of_lt_of_le f857.lt u2_868)
      have net868_b1 : b1 ≠ t868 := Nat.ne_of_lt (Nat.lt_of_lt_of_le f858.lt u2_868)
      have net868_b17 : b17 ≠ t868 := Nat.ne_of_lt (Nat.lt_of_lt_of_le f859.lt u2_868)
      have net868_b21 : b21 ≠ t868 := Nat.ne_of_lt (Nat.lt_of_lt_of_le f860.lt u2_868)
      have net868_b26 : b26 ≠ t868 := Nat.ne_of_lt (Nat.lt_of_lt_of_le f861.lt u2_868)
      have net868_t44 : t44 ≠ t868 := Nat.ne_of_lt (Nat.lt_of_lt_of_le f862.lt u2_868)
      have net868_b743 : b743 ≠ t868 := Nat.ne_of_lt (Nat.lt_of_lt_of_le f863.lt u2_868)
      have net868_b756 : b756 ≠ t868 := Nat.ne_of_lt (Nat.lt_of_lt_of_le f864.lt u2_868)
      have net868_b764 : b764 ≠ t868 := Nat.ne_of_lt (Nat.lt_of_lt_of_le f865.lt u2_868)
      have net868_t786 : t786 ≠ t868 := Nat.ne_of_lt (Nat.lt_of_lt_of_le f866.lt u2_868)
      have net868_b824 : b824 ≠ t868 := Nat.ne_of_lt (Nat.lt_of_lt_of_le f851.lt u2_868)
      have net868_b837 : b837 ≠ t868 := Nat.ne_of_lt (Nat.lt_of_lt_of_le V850.lt u2_868)
      have g_t868 : n0 ≤ t868 := Nat.le_trans Z850 u2_868
      have sz_t868 : h0.size ≤ t868 := Nat.le_trans K850.1 u2_868
      have N868 := Fr.app N850 Nq868
      refine Goes.tr st868 ?_
      refine Goes.by (fun _ kz => XS.astore X868.here hx rfl (hb hby at_594) rfl rfl rfl (XS.aload X868.here hx rfl (hb hby at_596) rfl rfl (XS.aload X868.here hx rfl (hb hby at_598) rfl rfl kz))) ?_
      have f869 := (f851.keep Kq868)
      have f871 := (f859.keep Kq868)
      obtain ⟨cq870, kq870, q870a, q870b, q870c⟩ := isOf hZ rfl f871
      obtain ⟨_, _, ⟨T870, L870, k870, n870⟩, -, X870, ⟨Lc870, hQ870, l870, y870, z870⟩, st870⟩ := X868.virtualBack hx (y := (⟨"com/example/killdeer/killdeer/GadgetView", "equals", "(Ljava/lang/Object;)Z"⟩ : MethodName)) (z := (⟨"com/example/killdeer/killdeer/GadgetView", "equals", "(Ljava/lang/Object;)Z"⟩ : MethodName)) hown (mvT hZ (wd hw 61 rfl)) (mvT hZ (wd hw 62 rfl)) (notFace_of_selects (args := #[]) (mvT hZ (wd hw 64 rfl))) (mvT hZ (wd hw 64 rfl)) (mvT hZ (wd hw 63 rfl)) (by decide) (backOf (W := 0) (r8_str l Z a0 hw [] T868.heap n0 Z868 b17 b824 f869 ne824_b17) hZ (wd hw 65 rfl) (wd hw 12 rfl) (by decide) (by decide)) q870a q870c (g := (mkF m 600 #[lv p1, .second, lv p2, .second, lv p3, .second, lv p4, .second, iv p5, iv p6, rv b1, iv z1, iv z2, iv oi, iv oj, iv ch0, iv ch1, iv ch2, iv zB, iv 4, iv 3, rv b17, iv z1, rv b743, lv p1, .second, lv p4, .second, lv p3, .second, lv p4, .second, rv (own_o w oi), rv b756, iv ze, rv b824] [(.ref b824), (.ref b17)])) rfl (by rw [hml]; rfl) (Steps.refl _) (argsL := [(.ref b824)]) (rest := []) (lenOf pd2 rfl) rfl (by show 2 * 0 + _ ≤ _; exact Nat.le_of_eq rfl) (hb hby at_600) (fun _ _ => ⟨rfl, rfl, (by decide : 12 + 0 ≤ _), (by decide : 39 + 0 ≤ _)⟩)
      dsimp only [Pt.U, Pt.locs, Pt.cells, Pt.slots] at X870 l870 y870 z870 st870 hQ870
      subst l870 y870 z870
      obtain ⟨rfl, Nq870, e870⟩ := hQ870
      have N870 := Fr.app N868 Nq870
      refine Goes.tr st870 ?_
      refine Goes.by (fun _ kz => XS.ifNo X870.here hx rfl (hb hby at_603) rfl ((if0 _ _).trans (teq (by decide : (0 : Int32) = (0 : Int32))).2) (XS.iconst X870.here hx rfl (hb hby at_606) (XS.goto X870.here hx rfl (pc0 := 607) (pc' := 611) rfl (hb hby at_607) (by decide) (by decide) kz))) ?_
      show Goes p e below (T870.setTop (mkF m 611 #[lv p1, .second, lv p2, .second, lv p3, .second, lv p4, .second, iv p5, iv p6, rv b1, iv z1, iv z2, iv oi, iv oj, iv ch0, iv ch1, iv ch2, iv zB, iv 4, iv 3, rv b17, iv z1, rv b743, lv p1, .second, lv p4, .second, lv p3, .second, lv p4, .second, rv (own_o w oi), rv b756, iv ze, rv b824] [(.int 1)])) _
      obtain ⟨fs, hr, hrun, hended, hW, hsame⟩ := X870.leave (v := some (.int 1)) (fun h => by rw [Bd.returns] at h; cases h)
      exact ⟨_, _, retN X870 hx (t := .boolean) Bd.returns (by simp) (hb hby at_611) hr, hrun, hended, _, _, rfl, ⟨rfl, N870⟩, ⟨_, rfl⟩, hW, hsame.mono (by decide) (by decide)⟩
  · show Goes p e below (T81.setTop (mkF m 186 #[lv p1, .second, lv p2, .second, lv p3, .second, lv p4, .second, iv p5, iv p6, rv b1, iv z1, iv z2, iv oi, iv oj, iv ch0, iv ch1, iv ch2, iv zB, iv 5, iv (((p6.toUInt32 >>> ((4 : Int32) &&& 31).toUInt32).toInt32) &&& (3 : Int32)), rv b17, .unset, .unset, .unset, .unset, .unset, .unset, .unset, .unset, .unset, .unset, .unset, .unset, .unset, .unset] [])) _
    refine Goes.by (fun _ kz => XS.iload X81.here hx rfl (hb hby at_186) rfl (XS.iconst X81.here hx rfl (hb hby at_188) (XS.icmpYes X81.here hx rfl (pc0 := 189) (pc' := 197) rfl (hb hby at_189) rfl (feq (by decide : ¬ ((5 : Int32) = (1 : Int32)))).2 (by decide) (by decide) kz))) ?_
    show Goes p e below (T81.setTop (mkF m 197 #[lv p1, .second, lv p2, .second, lv p3, .second, lv p4, .second, iv p5, iv p6, rv b1, iv z1, iv z2, iv oi, iv oj, iv ch0, iv ch1, iv ch2, iv zB, iv 5, iv (((p6.toUInt32 >>> ((4 : Int32) &&& 31).toUInt32).toInt32) &&& (3 : Int32)), rv b17, .unset, .unset, .unset, .unset, .unset, .unset, .unset, .unset, .unset, .unset, .unset, .unset, .unset, .unset] [])) _
    refine Goes.by (fun _ kz => XS.iload X81.here hx rfl (hb hby at_197) rfl (XS.istore X81.here hx rfl (hb hby at_199) rfl rfl (XS.iload X81.here hx rfl (hb hby at_201) rfl kz))) ?_
    show Goes p e below (T81.setTop (mkF m 203 #[lv p1, .second, lv p2, .second, lv p3, .second, lv p4, .second, iv p5, iv p6, rv b1, iv z1, iv z2, iv oi, iv oj, iv ch0, iv ch1, iv ch2, iv zB, iv 5, iv (((p6.toUInt32 >>> ((4 : Int32) &&& 31).toUInt32).toInt32) &&& (3 : Int32)), rv b17, iv z1, .unset, .unset, .unset, .unset, .unset, .unset, .unset, .unset, .unset, .unset, .unset, .unset, .unset] [(.int 5)])) _
    refine Goes.by (fun _ kz => XS.iconst X81.here hx rfl (hb hby at_203) (XS.icmpYes X81.here hx rfl (pc0 := 204) (pc' := 243) rfl (hb hby at_204) rfl (feq (by decide : ¬ ((5 : Int32) = (2 : Int32)))).2 (by decide) (by decide) (XS.iconst X81.here hx rfl (hb hby at_243) kz))) ?_
    have f873 := ((f38.keep Kq44).keep Kq81)
    have f874 := ((f39.keep Kq44).keep Kq81)
    have f875 := ((f40.keep Kq44).keep Kq81)
    have f876 := (f46.keep Kq81 (ninS ne17_b1 nin0))
    have f877 := (f73.keep Kq81)
    have f878 := ((f34.keep Kq44).keep Kq81)
    have f879 := ((V33.keep Kq44 (ninS (Ne.symm ne26_b21) nin0)).keep Kq81 (ninS (Ne.symm ne26_b17) nin0))
    have f880 := (gA44.keep Kq81 (ninS (Ne.symm net44_b17) nin0))
    obtain ⟨T872, h872, k872, X872, e872, E872, A872, st872⟩ := newP X81 hx hZ (wd hw 16 rfl) rfl (g := (mkF m 244 #[lv p1, .second, lv p2, .second, lv p3, .second, lv p4, .second, iv p5, iv p6, rv b1, iv z1, iv z2, iv oi, iv oj, iv ch0, iv ch1, iv ch2, iv zB, iv 5, iv (((p6.toUInt32 >>> ((4 : Int32) &&& 31).toUInt32).toInt32) &&& (3 : Int32)), rv b17, iv z1, .unset, .unset, .unset, .unset, .unset, .unset, .unset, .unset, .unset, .unset, .unset, .unset, .unset] [(.int 2)])) rfl (hb hby at_244) rfl (by decide) (cap := 2) (by decide) (by decide) (by decide) (by decide)
    obtain ⟨b872, g872⟩ : ∃ z, z = T81.heap.size := ⟨_, rfl⟩
    rw [← g872] at A872 st872
    have ne872__w_0_ : (w 0) ≠ b872 := Nat.ne_of_lt (Nat.lt_of_lt_of_le f873.lt (Nat.le_of_eq g872.symm))
    have ne872__w_1_ : (w 1) ≠ b872 := Nat.ne_of_lt (Nat.lt_of_lt_of_le f874.lt (Nat.le_of_eq g872.symm))
    have ne872__w_2_ : (w 2) ≠ b872 := Nat.ne_of_lt (Nat.lt_of_lt_of_le f875.lt (Nat.le_of_eq g872.symm))
    have ne872_b1 : b1 ≠ b872 := Nat.ne_of_lt (Nat.lt_of_lt_of_le f876.lt (Nat.le_of_eq g872.symm))
    have ne872_b17 : b17 ≠ b872 := Nat.ne_of_lt (Nat.lt_of_lt_of_le f877.lt (Nat.le_of_eq g872.symm))
    have ne872_b21 : b21 ≠ b872 := Nat.ne_of_lt (Nat.lt_of_lt_of_le f878.lt (Nat.le_of_eq g872.symm))
    have ne872_b26 : b26 ≠ b872 := Nat.ne_of_lt (Nat.lt_of_lt_of_le f879.lt (Nat.le_of_eq g872.symm))
    have ne872_t44 : t44 ≠ b872 := Nat.ne_of_lt (Nat.lt_of_lt_of_le f880.lt (Nat.le_of_eq g872.symm))
    have g_b872 : n0 ≤ b872 := Nat.le_trans Z81 (Nat.le_of_eq g872.symm)
    have sz_b872 : h0.size ≤ b872 := Nat.le_trans K81.1 (Nat.le_of_eq g872.symm)
    have V872 : Arv Z h872 b872 k872 .char (2 : Int32) [(.int 0), (.int 0)] (.int 0) := (Arv.new A872 (by decide)).pad (pad_rep [] (.int 0) 2)
    have K872 : Keep h0 h872 [] := Keep.ext K81 E872
    have Z872 : n0 ≤ h872.size := Nat.le_trans Z81 E872.1
    refine Goes.by st872 ?_
    refine Goes.by (fun _ kz => XS.dup X872.here hx rfl (hb hby at_246) rfl rfl (XS.iconst X872.here hx rfl (hb hby at_247) (XS.iload X872.here hx rfl (hb hby at_248) rfl kz))) ?_
    obtain ⟨cl881, Ar881, Cq881, Sz881, Nn881, Hh881, Gg881⟩ := id V872
    have hin881 : ¬ ((0 : Int32) < 0 ∨ cl881.slots.size ≤ ((0 : Int32)).toNatClampNeg) := inb_of Sz881 ⟨by decide, by decide⟩
    obtain ⟨T881, h881, X881, e881, W881, st881⟩ := stC X872 hx hZ e872 Ar881 (j := (0 : Int32)) hin881 (g := (mkF m 250 #[lv p1, .second, lv p2, .second, lv p3, .second, lv p4, .second, iv p5, iv p6, rv b1, iv z1, iv z2, iv oi, iv oj, iv ch0, iv ch1, iv ch2, iv zB, iv 5, iv (((p6.toUInt32 >>> ((4 : Int32) &&& 31).toUInt32).toInt32) &&& (3 : Int32)), rv b17, iv z1, .unset, .unset, .unset, .unset, .unset, .unset, .unset, .unset, .unset, .unset, .unset, .unset, .unset] [(.int ch0), (.int 0), (.ref b872), (.ref b872)])) rfl rfl (hb hby at_250)
    have V881 : Arv Z h881 b872 k872 .char (2 : Int32) [(.int (nar .char ch0)), (.int 0)] (.int 0) := Arv.set Ar881 Cq881 Sz881 Nn881 Hh881 Gg881 (fits_nar_char _) W881 0 rfl (Nat.le_of_ble_eq_true rfl)
    rw [hn_ch0] at V881
    have K881 : Keep h0 h881 [] := Keep.wr K872 W881 (Or.inr sz_b872)
    have Z881 : n0 ≤ h881.size := Nat.le_trans Z872 (Keep.of_wr W881).1
    have N881 := Fr.snoc X881 N81 g_b872
    refine Goes.by st881 ?_
    refine Goes.by (fun _ kz => XS.dup X881.here hx rfl (hb hby at_251) rfl rfl (XS.iconst X881.here hx rfl (hb hby at_252) (XS.iload X881.here hx rfl (hb hby at_253) rfl kz))) ?_
    obtain ⟨cl882, Ar882, Cq882, Sz882, Nn882, Hh882, Gg882⟩ := id V881
    have hin882 : ¬ ((1 : Int32) < 0 ∨ cl882.slots.size ≤ ((1 : Int32)).toNatClampNeg) := inb_of Sz882 ⟨by decide, by decide⟩
    obtain ⟨T882, h882, X882, e882, W882, st882⟩ := stC X881 hx hZ e881 Ar882 (j := (1 : Int32)) hin882 (g := (mkF m 255 #[lv p1, .second, lv p2, .second, lv p3, .second, lv p4, .second, iv p5, iv p6, rv b1, iv z1, iv z2, iv oi, iv oj, iv ch0, iv ch1, iv ch2, iv zB, iv 5, iv (((p6.toUInt32 >>> ((4 : Int32) &&& 31).toUInt32).toInt32) &&& (3 : Int32)), rv b17, iv z1, .unset, .unset, .unset, .unset, .unset, .unset, .unset, .unset, .unset, .unset, .unset, .unset, .unset] [(.int ch1), (.int 1), (.ref b872), (.ref b872)])) rfl rfl (hb hby at_255)
    have V882 : Arv Z h882 b872 k872 .char (2 : Int32) [(.int ch0), (.int (nar .char ch1))] (.int 0) := Arv.set Ar882 Cq882 Sz882 Nn882 Hh882 Gg882 (fits_nar_char _) W882 1 rfl (Nat.le_of_ble_eq_true rfl)
    rw [hn_ch1] at V882
    have K882 : Keep h0 h882 [] := Keep.wr K881 W882 (Or.inr sz_b872)
    have Z882 : n0 ≤ h882.size := Nat.le_trans Z881 (Keep.of_wr W882).1
    have N882 := Fr.snoc X882 N881 g_b872
    refine Goes.by st882 ?_
    refine Goes.by (fun _ kz => XS.astore X882.here hx rfl (hb hby at_256) rfl rfl rfl (XS.iload X882.here hx rfl (hb hby at_258) rfl (XS.iconst X882.here hx rfl (hb hby at_260) kz))) ?_
    show Goes p e below (T882.setTop (mkF m 261 #[lv p1, .second, lv p2, .second, lv p3, .second, lv p4, .second, iv p5, iv p6, rv b1, iv z1, iv z2, iv oi, iv oj, iv ch0, iv ch1, iv ch2, iv zB, iv 5, iv (((p6.toUInt32 >>> ((4 : Int32) &&& 31).toUInt32).toInt32) &&& (3 : Int32)), rv b17, iv z1, rv b872, .unset, .unset, .unset, .unset, .unset, .unset, .unset, .unset, .unset, .unset, .unset, .unset] [(.int 3), (.int 5)])) _
    refine Goes.by (fun _ kz => XS.icmpYes X882.here hx rfl (pc0 := 261) (pc' := 269) rfl (hb hby at_261) rfl (feq (by decide : ¬ ((5 : Int32) = (3 : Int32)))).2 (by decide) (by decide) (XS.lloadN X882.here hx rfl (hb hby at_269) rfl (XS.lstore X882.here hx rfl (hb hby at_270) rfl rfl kz))) ?_
    show Goes p e below (T882.setTop (mkF m 272 #[lv p1, .second, lv p2, .second, lv p3, .second, lv p4, .second, iv p5, iv p6, rv b1, iv z1, iv z2, iv oi, iv oj, iv ch0, iv ch1, iv ch2, iv zB, iv 5, iv (((p6.toUInt32 >>> ((4 : Int32) &&& 31).toUInt32).toInt32) &&& (3 : Int32)), rv b17, iv z1, rv b872, lv p1, .second, .unset, .unset, .unset, .unset, .unset, .unset, .unset, .unset, .unset, .unset] [])) _
    refine Goes.by (fun _ kz => XS.iload X882.here hx rfl (hb hby at_272) rfl (XS.iconst X882.here hx rfl (hb hby at_274) (XS.icmpYes X882.here hx rfl (pc0 := 275) (pc' := 283) rfl (hb hby at_275) rfl (feq (by decide : ¬ ((5 : Int32) = (4 : Int32)))).2 (by decide) (by decide) kz))) ?_
    show Goes p e below (T882.setTop (mkF m 283 #[lv p1, .second, lv p2, .second, lv p3, .second, lv p4, .second, iv p5, iv p6, rv b1, iv z1, iv z2, iv oi, iv oj, iv ch0, iv ch1, iv ch2, iv zB, iv 5, iv (((p6.toUInt32 >>> ((4 : Int32) &&& 31).toUInt32).toInt32) &&& (3 : Int32)), rv b17, iv z1, rv b872, lv p1, .second, .unset, .unset, .unset, .unset, .unset, .unset, .unset, .unset, .unset, .unset] [])) _
    refine Goes.by (fun _ kz => XS.lloadN X882.here hx rfl (hb hby at_283) rfl (XS.lstore X882.here hx rfl (hb hby at_284) rfl rfl (XS.iload X882.here hx rfl (hb hby at_286) rfl kz))) ?_
    show Goes p e below (T882.setTop (mkF m 288 #[lv p1, .second, lv p2, .second, lv p3, .second, lv p4, .second, iv p5, iv p6, rv b1, iv z1, iv z2, iv oi, iv oj, iv ch0, iv ch1, iv ch2, iv zB, iv 5, iv (((p6.toUInt32 >>> ((4 : Int32) &&& 31).toUInt32).toInt32) &&& (3 : Int32)), rv b17, iv z1, rv b872, lv p1, .second, lv p2, .second, .unset, .unset, .unset, .unset, .unset, .unset, .unset, .unset] [(.int 5)])) _
    refine Goes.by (fun _ kz => XS.iconst X882.here hx rfl (hb hby at_288) (XS.icmpNo X882.here hx rfl (hb hby at_289) rfl (teq (by decide : (5 : Int32) = (5 : Int32))).2 (XS.lload X882.here hx rfl (hb hby at_292) rfl kz))) ?_
    show Goes p e below (T882.setTop (mkF m 294 #[lv p1, .second, lv p2, .second, lv p3, .second, lv p4, .second, iv p5, iv p6, rv b1, iv z1, iv z2, iv oi, iv oj, iv ch0, iv ch1, iv ch2, iv zB, iv 5, iv (((p6.toUInt32 >>> ((4 : Int32) &&& 31).toUInt32).toInt32) &&& (3 : Int32)), rv b17, iv z1, rv b872, lv p1, .second, lv p2, .second, .unset, .unset, .unset, .unset, .unset, .unset, .unset, .unset] [(.long p4)])) _
    refine Goes.by (fun _ kz => XS.goto X882.here hx rfl (pc0 := 294) (pc' := 299) rfl (hb hby at_294) (by decide) (by decide) (XS.lstore X882.here hx rfl (hb hby at_299) rfl rfl (XS.iload X882.here hx rfl (hb hby at_301) rfl kz))) ?_
    show Goes p e below (T882.setTop (mkF m 303 #[lv p1, .second, lv p2, .second, lv p3, .second, lv p4, .second, iv p5, iv p6, rv b1, iv z1, iv z2, iv oi, iv oj, iv ch0, iv ch1, iv ch2, iv zB, iv 5, iv (((p6.toUInt32 >>> ((4 : Int32) &&& 31).toUInt32).toInt32) &&& (3 : Int32)), rv b17, iv z1, rv b872, lv p1, .second, lv p2, .second, lv p4, .second, .unset, .unset, .unset, .unset, .unset, .unset] [(.int 5)])) _
    refine Goes.by (fun _ kz => XS.bipush X882.here hx rfl (hb hby at_303) (XS.icmpYes X882.here hx rfl (pc0 := 305) (pc' := 312) rfl (hb hby at_305) rfl (feq (by decide : ¬ ((5 : Int32) = (6 : Int32)))).2 (by decide) (by decide) (XS.lload X882.here hx rfl (hb hby at_312) rfl kz))) ?_
    show Goes p e below (T882.setTop (mkF m 314 #[lv p1, .second, lv p2, .second, lv p3, .second, lv p4, .second, iv p5, iv p6, rv b1, iv z1, iv z2, iv oi, iv oj, iv ch0, iv ch1, iv ch2, iv zB, iv 5, iv (((p6.toUInt32 >>> ((4 : Int32) &&& 31).toUInt32).toInt32) &&& (3 : Int32)), rv b17, iv z1, rv b872, lv p1, .second, lv p2, .second, lv p4, .second, .unset, .unset, .unset, .unset, .unset, .unset] [(.long p4)])) _
    refine Goes.by (fun _ kz => XS.lstore X882.here hx rfl (hb hby at_314) rfl rfl (XS.iload X882.here hx rfl (hb hby at_316) rfl (XS.bipush X882.here hx rfl (hb hby at_318) kz))) ?_
    show Goes p e below (T882.setTop (mkF m 320 #[lv p1, .second, lv p2, .second, lv p3, .second, lv p4, .second, iv p5, iv p6, rv b1, iv z1, iv z2, iv oi, iv oj, iv ch0, iv ch1, iv ch2, iv zB, iv 5, iv (((p6.toUInt32 >>> ((4 : Int32) &&& 31).toUInt32).toInt32) &&& (3 : Int32)), rv b17, iv z1, rv b872, lv p1, .second, lv p2, .second, lv p4, .second, lv p4, .second, .unset, .unset, .unset, .unset] [(.int 7), (.int 5)])) _
    refine Goes.by (fun _ kz => XS.icmpYes X882.here hx rfl (pc0 := 320) (pc' := 331) rfl (hb hby at_320) rfl (feq (by decide : ¬ ((5 : Int32) = (7 : Int32)))).2 (by decide) (by decide) (XS.aload X882.here hx rfl (hb hby at_331) rfl rfl (XS.iload X882.here hx rfl (hb hby at_333) rfl kz))) ?_
    show Goes p e below (T882.setTop (mkF m 335 #[lv p1, .second, lv p2, .second, lv p3, .second, lv p4, .second, iv p5, iv p6, rv b1, iv z1, iv z2, iv oi, iv oj, iv ch0, iv ch1, iv ch2, iv zB, iv 5, iv (((p6.toUInt32 >>> ((4 : Int32) &&& 31).toUInt32).toInt32) &&& (3 : Int32)), rv b17, iv z1, rv b872, lv p1, .second, lv p2, .second, lv p4, .second, lv p4, .second, .unset, .unset, .unset, .unset] [(.int oi), (.ref b1)])) _
    have f884 := (((f876.ext E872).other W881 ne872_b1).other W882 ne872_b1)
    obtain ⟨cl883, Ar883, Cq883, Sz883, Nn883, Hh883, Gg883⟩ := id f884
    have hin883 : ¬ (oi < 0 ∨ cl883.slots.size ≤ (oi).toNatClampNeg) := inb_of Sz883 (own_i3 h_oi)
    have hat883 : cl883.slots[(oi).toNatClampNeg]? = some (.ref (own_o w oi)) := Has.at Hh883 hin883 (by rcases h_oi with h | h | h <;> rw [h] <;> rfl)
    refine Goes.by (fun _ kz => X882.aaload hx (j := oi) (v := (.ref (own_o w oi))) (by rw [e882]; exact Ar883.1) (State.isArrayOf_alike hZ.alike Ar883.2.1) rfl Ar883.2.2 hin883 hat883 (g := (mkF m 335 #[lv p1, .second, lv p2, .second, lv p3, .second, lv p4, .second, iv p5, iv p6, rv b1, iv z1, iv z2, iv oi, iv oj, iv ch0, iv ch1, iv ch2, iv zB, iv 5, iv (((p6.toUInt32 >>> ((4 : Int32) &&& 31).toUInt32).toInt32) &&& (3 : Int32)), rv b17, iv z1, rv b872, lv p1, .second, lv p2, .second, lv p4, .second, lv p4, .second, .unset, .unset, .unset, .unset] [(.int oi), (.ref b1)])) rfl rfl (hb hby at_335) _ (XS.astore X882.here hx rfl (hb hby at_336) rfl rfl rfl kz)) ?_
    have f886 := (Exa.wr W882 (Exa.wr W881 (f873.ext E872)))
    have f887 := (Exa.wr W882 (Exa.wr W881 (f874.ext E872)))
    have f888 := (Exa.wr W882 (Exa.wr W881 (f875.ext E872)))
    have f889 := (Exa.wr W882 (Exa.wr W881 (f877.ext E872)))
    have f890 := (Exa.wr W882 (Exa.wr W881 (f878.ext E872)))
    have f891 := (((f879.ext E872).other W881 ne872_b26).other W882 ne872_b26)
    have f892 := (((f880.ext E872).other W881 ne872_t44).other W882 ne872_t44)
    obtain ⟨T885, h885, X885, e885, E885, A885, D885, -, st885⟩ := newO X882 hx hZ hown (wd hw 10 rfl) (wd hw 11 rfl) (wd hw 12 rfl) e882 (g := (mkF m 338 #[lv p1, .second, lv p2, .second, lv p3, .second, lv p4, .second, iv p5, iv p6, rv b1, iv z1, iv z2, iv oi, iv oj, iv ch0, iv ch1, iv ch2, iv zB, iv 5, iv (((p6.toUInt32 >>> ((4 : Int32) &&& 31).toUInt32).toInt32) &&& (3 : Int32)), rv b17, iv z1, rv b872, lv p1, .second, lv p2, .second, lv p4, .second, lv p4, .second, rv (own_o w oi), .unset, .unset, .unset] [])) rfl (hb hby at_338) (by decide) (by decide)
    obtain ⟨b885, g885⟩ : ∃ z, z = h882.size := ⟨_, rfl⟩
    rw [← g885] at A885 D885 st885
    have ne885__w_0_ : (w 0) ≠ b885 := Nat.ne_of_lt (Nat.lt_of_lt_of_le f886.lt (Nat.le_of_eq g885.symm))
    have ne885__w_1_ : (w 1) ≠ b885 := Nat.ne_of_lt (Nat.lt_of_lt_of_le f887.lt (Nat.le_of_eq g885.symm))
    have ne885__w_2_ : (w 2) ≠ b885 := Nat.ne_of_lt (Nat.lt_of_lt_of_le f888.lt (Nat.le_of_eq g885.symm))
    have ne885_b1 : b1 ≠ b885 := Nat.ne_of_lt (Nat.lt_of_lt_of_le f884.lt (Nat.le_of_eq g885.symm))
    have ne885_b17 : b17 ≠ b885 := Nat.ne_of_lt (Nat.lt_of_lt_of_le f889.lt (Nat.le_of_eq g885.symm))
    have ne885_b21 : b21 ≠ b885 := Nat.ne_of_lt (Nat.lt_of_lt_of_le f890.lt (Nat.le_of_eq g885.symm))
    have ne885_b26 : b26 ≠ b885 := Nat.ne_of_lt (Nat.lt_of_lt_of_le f891.lt (Nat.le_of_eq g885.symm))
    have ne885_t44 : t44 ≠ b885 := Nat.ne_of_lt (Nat.lt_of_lt_of_le f892.lt (Nat.le_of_eq g885.symm))
    have ne885_b872 : b872 ≠ b885 := Nat.ne_of_lt (Nat.lt_of_lt_of_le V882.lt (Nat.le_of_eq g885.symm))
    have g_b885 : n0 ≤ b885 := Nat.le_trans Z882 (Nat.le_of_eq g885.symm)
    have sz_b885 : h0.size ≤ b885 := Nat.le_trans K882.1 (Nat.le_of_eq g885.symm)
    have F885_visible : Fld Z h885 b885 "com/example/killdeer/killdeer/GadgetView" "visible" "Z" (.int 0) := D885 (Or.inr (wd hw 48 rfl)) (ty := .boolean) (by decide)
    have F885_appearance : Fld Z h885 b885 "com/example/killdeer/killdeer/GadgetView" "appearance" "Ljava/lang/String;" .null := D885 (Or.inr (wd hw 50 rfl)) (ty := (.object "java/lang/String")) (by decide)
    have F885_x : Fld Z h885 b885 "com/example/killdeer/killdeer/GadgetView" "x" "J" (.long 0) := D885 (Or.inr (wd hw 52 rfl)) (ty := .long) (by decide)
    have F885_y : Fld Z h885 b885 "com/example/killdeer/killdeer/GadgetView" "y" "J" (.long 0) := D885 (Or.inr (wd hw 54 rfl)) (ty := .long) (by decide)
    have F885_width : Fld Z h885 b885 "com/example/killdeer/killdeer/GadgetView" "width" "J" (.long 0) := D885 (Or.inr (wd hw 56 rfl)) (ty := .long) (by decide)
    have F885_height : Fld Z h885 b885 "com/example/killdeer/killdeer/GadgetView" "height" "J" (.long 0) := D885 (Or.inr (wd hw 58 rfl)) (ty := .long) (by decide)
    have F885_obscured : Fld Z h885 b885 "com/example/killdeer/killdeer/GadgetView" "obscured" "Lcom/example/killdeer/killdeer/GadgetView$Obscured;" .null := D885 (Or.inr (wd hw 60 rfl)) (ty := (.object "com/example/killdeer/killdeer/GadgetView$Obscured")) (by decide)
    have K885 : Keep h0 h885 [] := Keep.ext K882 E885
    have Z885 : n0 ≤ h885.size := Nat.le_trans Z882 E885.1
    refine Goes.by st885 ?_
    refine Goes.by (fun _ kz => XS.dup X885.here hx rfl (hb hby at_341) rfl rfl (XS.iload X885.here hx rfl (hb hby at_342) rfl kz)) ?_
    have f894 := (f886.ext E885)
    have f895 := (f887.ext E885)
    have f896 := (f888.ext E885)
    have f897 := (f884.ext E885)
    have f898 := (f889.ext E885)
    have f899 := (f890.ext E885)
    have f900 := (f891.ext E885)
    have f901 := (f892.ext E885)
    have f902 := (V882.ext E885)
    obtain ⟨T893, h893, X893, e893, E893, A893, D893, -, st893⟩ := newO X885 hx hZ hown (wd hw 13 rfl) (wd hw 14 rfl) (wd hw 15 rfl) e885 (g := (mkF m 344 #[lv p1, .second, lv p2, .second, lv p3, .second, lv p4, .second, iv p5, iv p6, rv b1, iv z1, iv z2, iv oi, iv oj, iv ch0, iv ch1, iv ch2, iv zB, iv 5, iv (((p6.toUInt32 >>> ((4 : Int32) &&& 31).toUInt32).toInt32) &&& (3 : Int32)), rv b17, iv z1, rv b872, lv p1, .second, lv p2, .second, lv p4, .second, lv p4, .second, rv (own_o w oi), .unset, .unset, .unset] [(.int z1), (.ref b885), (.ref b885)])) rfl (hb hby at_344) (by decide) (by decide)
    obtain ⟨b893, g893⟩ : ∃ z, z = h885.size := ⟨_, rfl⟩
    rw [← g893] at A893 D893 st893
    have ne893__w_0_ : (w 0) ≠ b893 := Nat.ne_of_lt (Nat.lt_of_lt_of_le f894.lt (Nat.le_of_eq g893.symm))
    have ne893__w_1_ : (w 1) ≠ b893 := Nat.ne_of_lt (Nat.lt_of_lt_of_le f895.lt (Nat.le_of_eq g893.symm))
    have ne893__w_2_ : (w 2) ≠ b893 := Nat.ne_of_lt (Nat.lt_of_lt_of_le f896.lt (Nat.le_of_eq g893.symm))
    have ne893_b1 : b1 ≠ b893 := Nat.ne_of_lt (Nat.lt_of_lt_of_le f897.lt (Nat.le_of_eq g893.symm))
    have ne893_b17 : b17 ≠ b893 := Nat.ne_of_lt (Nat.lt_of_lt_of_le f898.lt (Nat.le_of_eq g893.symm))
    have ne893_b21 : b21 ≠ b893 := Nat.ne_of_lt (Nat.lt_of_lt_of_le f899.lt (Nat.le_of_eq g893.symm))
    have ne893_b26 : b26 ≠ b893 := Nat.ne_of_lt (Nat.lt_of_lt_of_le f900.lt (Nat.le_of_eq g893.symm))
    have ne893_t44 : t44 ≠ b893 := Nat.ne_of_lt (Nat.lt_of_lt_of_le f901.lt (Nat.le_of_eq g893.symm))
    have ne893_b872 : b872 ≠ b893 := Nat.ne_of_lt (Nat.lt_of_lt_of_le f902.lt (Nat.le_of_eq g893.symm))
    have ne893_b885 : b885 ≠ b893 := Nat.ne_of_lt (Nat.lt_of_lt_of_le A885.lt (Nat.le_of_eq g893.symm))
    have g_b893 : n0 ≤ b893 := Nat.le_trans Z885 (Nat.le_of_eq g893.symm)
    have sz_b893 : h0.size ≤ b893 := Nat.le_trans K885.1 (Nat.le_of_eq g893.symm)
    have F893_coder : Fld Z h893 b893 "java/lang/String" "coder" "B" (.int 0) := D893 (Or.inr (wd hw 40 rfl)) (ty := .byte) (by decide)
    have F893_value : Fld Z h893 b893 "java/lang/String" "value" "[B" .null := D893 (Or.inr (wd hw 42 rfl)) (ty := (.array .byte)) (by decide)
    have K893 : Keep h0 h893 [] := Keep.ext K885 E893
    have Z893 : n0 ≤ h893.size := Nat.le_trans Z885 E893.1
    refine Goes.by st893 ?_
    refine Goes.by (fun _ kz => XS.dup X893.here hx rfl (hb hby at_347) rfl rfl (XS.aload X893.here hx rfl (hb hby at_348) rfl rfl kz)) ?_
    show Goes p e below (T893.setTop (mkF m 350 #[lv p1, .second, lv p2, .second, lv p3, .second, lv p4, .second, iv p5, iv p6, rv b1, iv z1, iv z2, iv oi, iv oj, iv ch0, iv ch1, iv ch2, iv zB, iv 5, iv (((p6.toUInt32 >>> ((4 : Int32) &&& 31).toUInt32).toInt32) &&& (3 : Int32)), rv b17, iv z1, rv b872, lv p1, .second, lv p2, .second, lv p4, .second, lv p4, .second, rv (own_o w oi), .unset, .unset, .unset] [(.ref b872), (.ref b893), (.ref b893), (.int z1), (.ref b885), (.ref b885)])) _
    have f903 := (f902.ext E893)
    have f904 := (((Sta.wr W882 (Sta.wr W881 ((own_staKeep (own_staKeep f37 Kq44 (allS (own_nsE f34) all0)) Kq81 (allS (own_nsE f73) all0)).ext E872))).ext E885).ext E893)
    have f905 := (f894.ext E893)
    have f906 := (f895.ext E893)
    have f907 := (f896.ext E893)
    have f908 := (f897.ext E893)
    have f909 := (f898.ext E893)
    have f910 := (f899.ext E893)
    have f911 := (f900.ext E893)
    have f912 := (f901.ext E893)
    have f913 := (A885.ext E893)
    have hp914 : ∀ c ∈ ([ch0, ch1] : List Int32), ¬ c < 0 ∧ ¬ (255 : Int32) < c := by
      intro c hc; simp only [List.mem_cons, List.not_mem_nil, or_false] at hc
      rcases hc with hc | hc
      · rw [hc]; exact hb_ch0
      · rw [hc]; exact hb_ch1
    have hcd914 : StrChars.Road.CodA ([ch0, ch1] : List Int32) 0 (2 : Int32) ((([ch0, ch1] : List Int32).map (fun c => c.toInt8.toInt32)).map Value.int) := StrChars.Road.codOf (n := 2) rfl (fun c hc => (hp914 c hc).2)
    have hbd914 := own_up _ hp914
    obtain ⟨_, _, ⟨T915, L915, k915, n915⟩, -, X915, ⟨Lc915, hQ915, l915, y915, z915⟩, st915⟩ := X893.specialBack hx (y := (⟨"java/lang/String", "<init>", "([C)V"⟩ : MethodName)) rfl hown (mvT hZ (wd hw 17 rfl)) (mvT hZ (wd hw 18 rfl)) (mvT hZ (wd hw 19 rfl)) (by decide) (StrChars.Road.backV (W := 4) hZ hws (kI := 4) (wd hw 14 rfl) (cs := ([ch0, ch1] : List Int32)) (bs := (([ch0, ch1] : List Int32).map (fun c => c.toInt8.toInt32))) (n := 2) g_b893 Z893 A893 F893_value F893_coder f903 f904 hzc rfl rfl (by decide) (by decide) hp914 rfl (by decide) (by decide)) (g := (mkF m 350 #[lv p1, .second, lv p2, .second, lv p3, .second, lv p4, .second, iv p5, iv p6, rv b1, iv z1, iv z2, iv oi, iv oj, iv ch0, iv ch1, iv ch2, iv zB, iv 5, iv (((p6.toUInt32 >>> ((4 : Int32) &&& 31).toUInt32).toInt32) &&& (3 : Int32)), rv b17, iv z1, rv b872, lv p1, .second, lv p2, .second, lv p4, .second, lv p4, .second, rv (own_o w oi), .unset, .unset, .unset] [(.ref b872), (.ref b893), (.ref b893), (.int z1), (.ref b885), (.ref b885)])) rfl (by rw [hml]; rfl) (Steps.refl _) (a := b893) (argsL := [(.ref b872)]) (rest := [(.ref b893), (.int z1), (.ref b885), (.ref b885)]) (lenOf pd0 rfl) rfl (by show 2 * 0 + _ ≤ _; exact Nat.le_of_eq rfl) (hb hby at_350) (fun _ _ => ⟨rfl, e893, (by decide : 8 + 1 ≤ _), (by decide : 31 + 2 ≤ _)⟩)
    dsimp only [Pt.U, Pt.locs, Pt.cells, Pt.slots] at X915 l915 y915 z915 st915 hQ915
    subst l915 y915 z915
    obtain ⟨rfl, Nq915, Kq915, gE915, gC915, t915, kb915, u1_915, u2_915, u3_915, gV915, gA915⟩ := hQ915
    have K915 : Keep h0 T915.heap [] := Keep.trans K893 Kq915 (allS (Or.inr sz_b893) all0)
    have Z915 : n0 ≤ T915.heap.size := Nat.le_trans Z893 Kq915.1
    have net915__w_0_ : (w 0) ≠ t915 := Nat.ne_of_lt (Nat.lt_of_lt_of_le f905.lt u2_915)
    have net915__w_1_ : (w 1) ≠ t915 := Nat.ne_of_lt (Nat.lt_of_lt_of_le f906.lt u2_915)
    have net915__w_2_ : (w 2) ≠ t915 := Nat.ne_of_lt (Nat.lt_of_lt_of_le f907.lt u2_915)
    have net915_b1 : b1 ≠ t915 := Nat.ne_of_lt (Nat.lt_of_lt_of_le f908.lt u2_915)
    have net915_b17 : b17 ≠ t915 := Nat.ne_of_lt (Nat.lt_of_lt_of_le f909.lt u2_915)
    have net915_b21 : b21 ≠ t915 := Nat.ne_of_lt (Nat.lt_of_lt_of_le f910.lt u2_915)
    have net915_b26 : b26 ≠ t915 := Nat.ne_of_lt (Nat.lt_of_lt_of_le f911.lt u2_915)
    have net915_t44 : t44 ≠ t915 := Nat.ne_of_lt (Nat.lt_of_lt_of_le f912.lt u2_915)
    have net915_b872 : b872 ≠ t915 := Nat.ne_of_lt (Nat.lt_of_lt_of_le f903.lt u2_915)
    have net915_b885 : b885 ≠ t915 := Nat.ne_of_lt (Nat.lt_of_lt_of_le f913.lt u2_915)
    have net915_b893 : b893 ≠ t915 := Nat.ne_of_lt (Nat.lt_of_lt_of_le A893.lt u2_915)
    have g_t915 : n0 ≤ t915 := Nat.le_trans Z893 u2_915
    have sz_t915 : h0.size ≤ t915 := Nat.le_trans K893.1 u2_915
    have N915 := Fr.app N882 Nq915
    refine Goes.tr st915 ?_
    refine Goes.by (fun _ kz => XS.lload X915.here hx rfl (hb hby at_353) rfl (XS.lload X915.here hx rfl (hb hby at_355) rfl (XS.lload X915.here hx rfl (hb hby at_357) rfl kz))) ?_
    show Goes p e below (T915.setTop (mkF m 359 #[lv p1, .second, lv p2, .second, lv p3, .second, lv p4, .second, iv p5, iv p6, rv b1, iv z1, iv z2, iv oi, iv oj, iv ch0, iv ch1, iv ch2, iv zB, iv 5, iv (((p6.toUInt32 >>> ((4 : Int32) &&& 31).toUInt32).toInt32) &&& (3 : Int32)), rv b17, iv z1, rv b872, lv p1, .second, lv p2, .second, lv p4, .second, lv p4, .second, rv (own_o w oi), .unset, .unset, .unset] [(.long p4), (.long p2), (.long p1), (.ref b893), (.int z1), (.ref b885), (.ref b885)])) _
    refine Goes.by (fun _ kz => XS.lload X915.here hx rfl (hb hby at_359) rfl (XS.aload X915.here hx rfl (hb hby at_361) rfl rfl kz)) ?_
    have f916 := (f913.keep Kq915)
    have f917 := ((F885_visible.ext E893).keep Kq915 (ninS ne893_b885 nin0))
    have f918 := ((F885_appearance.ext E893).keep Kq915 (ninS ne893_b885 nin0))
    have f919 := ((F885_x.ext E893).keep Kq915 (ninS ne893_b885 nin0))
    have f920 := ((F885_y.ext E893).keep Kq915 (ninS ne893_b885 nin0))
    have f921 := ((F885_width.ext E893).keep Kq915 (ninS ne893_b885 nin0))
    have f922 := ((F885_height.ext E893).keep Kq915 (ninS ne893_b885 nin0))
    have f923 := ((F885_obscured.ext E893).keep Kq915 (ninS ne893_b885 nin0))
    obtain ⟨_, _, ⟨T924, L924, k924, n924⟩, -, X924, ⟨Lc924, hQ924, l924, y924, z924⟩, st924⟩ := X915.specialBack hx (y := (⟨"com/example/killdeer/killdeer/GadgetView", "<init>", "(ZLjava/lang/String;JJJJLcom/example/killdeer/killdeer/GadgetView$Obscured;)V"⟩ : MethodName)) rfl hown (mvT hZ (wd hw 43 rfl)) (mvT hZ (wd hw 44 rfl)) (mvT hZ (wd hw 45 rfl)) (by decide) (backOf (W := 1) (r7_0 l Z a0 hw [] T915.heap n0 Z915 b885 z1 b893 p1 p2 p4 p4 (own_o w oi) f916 f917 f918 f919 f920 f921 f922 f923 g_b885) hZ (wd hw 45 rfl) (wd hw 12 rfl) (by decide) (by decide)) (g := (mkF m 363 #[lv p1, .second, lv p2, .second, lv p3, .second, lv p4, .second, iv p5, iv p6, rv b1, iv z1, iv z2, iv oi, iv oj, iv ch0, iv ch1, iv ch2, iv zB, iv 5, iv (((p6.toUInt32 >>> ((4 : Int32) &&& 31).toUInt32).toInt32) &&& (3 : Int32)), rv b17, iv z1, rv b872, lv p1, .second, lv p2, .second, lv p4, .second, lv p4, .second, rv (own_o w oi), .unset, .unset, .unset] [(.ref (own_o w oi)), (.long p4), (.long p4), (.long p2), (.long p1), (.ref b893), (.int z1), (.ref b885), (.ref b885)])) rfl (by rw [hml]; rfl) (Steps.refl _) (a := b885) (argsL := [(.int z1), (.ref b893), (.long p1), (.long p2), (.long p4), (.long p4), (.ref (own_o w oi))]) (rest := [(.ref b885)]) (lenOf pd1 rfl) rfl (by show 2 * 0 + _ ≤ _; exact Nat.le_of_eq rfl) (hb hby at_363) (fun _ _ => ⟨rfl, rfl, (by decide : 9 + 0 ≤ _), (by decide : 33 + 0 ≤ _)⟩)
    dsimp only [Pt.U, Pt.locs, Pt.cells, Pt.slots] at X924 l924 y924 z924 st924 hQ924
    subst l924 y924 z924
    obtain ⟨rfl, Nq924, Kq924, fq924_0, fq924_1, fq924_2, fq924_3, fq924_4, fq924_5, fq924_6⟩ := hQ924
    have K924 : Keep h0 T924.heap [] := Keep.trans K915 Kq924 (allS (Or.inr sz_b885) all0)
    have Z924 : n0 ≤ T924.heap.size := Nat.le_trans Z915 Kq924.1
    have N924 := Fr.app N915 Nq924
    refine Goes.tr st924 ?_
    refine Goes.by (fun _ kz => XS.astore X924.here hx rfl (hb hby at_366) rfl rfl rfl (XS.iload X924.here hx rfl (hb hby at_368) rfl (XS.ifYes X924.here hx rfl (pc0 := 370) (pc' := 379) rfl (hb hby at_370) rfl ((if0 _ _).trans (feq (by decide : ¬ ((5 : Int32) = (0 : Int32)))).2) (by decide) (by decide) kz))) ?_
    show Goes p e below (T924.setTop (mkF m 379 #[lv p1, .second, lv p2, .second, lv p3, .second, lv p4, .second, iv p5, iv p6, rv b1, iv z1, iv z2, iv oi, iv oj, iv ch0, iv ch1, iv ch2, iv zB, iv 5, iv (((p6.toUInt32 >>> ((4 : Int32) &&& 31).toUInt32).toInt32) &&& (3 : Int32)), rv b17, iv z1, rv b872, lv p1, .second, lv p2, .second, lv p4, .second, lv p4, .second, rv (own_o w oi), rv b885, .unset, .unset] [])) _
    refine Goes.by (fun _ kz => XS.iload X924.here hx rfl (hb hby at_379) rfl (XS.iconst X924.here hx rfl (hb hby at_381) (XS.icmpYes X924.here hx rfl (pc0 := 382) (pc' := 402) rfl (hb hby at_382) rfl (feq (by decide : ¬ ((5 : Int32) = (1 : Int32)))).2 (by decide) (by decide) kz))) ?_
    show Goes p e below (T924.setTop (mkF m 402 #[lv p1, .second, lv p2, .second, lv p3, .second, lv p4, .second, iv p5, iv p6, rv b1, iv z1, iv z2, iv oi, iv oj, iv ch0, iv ch1, iv ch2, iv zB, iv 5, iv (((p6.toUInt32 >>> ((4 : Int32) &&& 31).toUInt32).toInt32) &&& (3 : Int32)), rv b17, iv z1, rv b872, lv p1, .second, lv p2, .second, lv p4, .second, lv p4, .second, rv (own_o w oi), rv b885, .unset, .unset] [])) _
    refine Goes.by (fun _ kz => XS.iload X924.here hx rfl (hb hby at_402) rfl (XS.iconst X924.here hx rfl (hb hby at_404) (XS.icmpYes X924.here hx rfl (pc0 := 405) (pc' := 430) rfl (hb hby at_405) rfl (feq (by decide : ¬ ((5 : Int32) = (2 : Int32)))).2 (by decide) (by decide) kz))) ?_
    show Goes p e below (T924.setTop (mkF m 430 #[lv p1, .second, lv p2, .second, lv p3, .second, lv p4, .second, iv p5, iv p6, rv b1, iv z1, iv z2, iv oi, iv oj, iv ch0, iv ch1, iv ch2, iv zB, iv 5, iv (((p6.toUInt32 >>> ((4 : Int32) &&& 31).toUInt32).toInt32) &&& (3 : Int32)), rv b17, iv z1, rv b872, lv p1, .second, lv p2, .second, lv p4, .second, lv p4, .second, rv (own_o w oi), rv b885, .unset, .unset] [])) _
    refine Goes.by (fun _ kz => XS.iload X924.here hx rfl (hb hby at_430) rfl (XS.iconst X924.here hx rfl (hb hby at_432) (XS.icmpYes X924.here hx rfl (pc0 := 433) (pc' := 453) rfl (hb hby at_433) rfl (feq (by decide : ¬ ((5 : Int32) = (3 : Int32)))).2 (by decide) (by decide) kz))) ?_
    show Goes p e below (T924.setTop (mkF m 453 #[lv p1, .second, lv p2, .second, lv p3, .second, lv p4, .second, iv p5, iv p6, rv b1, iv z1, iv z2, iv oi, iv oj, iv ch0, iv ch1, iv ch2, iv zB, iv 5, iv (((p6.toUInt32 >>> ((4 : Int32) &&& 31).toUInt32).toInt32) &&& (3 : Int32)), rv b17, iv z1, rv b872, lv p1, .second, lv p2, .second, lv p4, .second, lv p4, .second, rv (own_o w oi), rv b885, .unset, .unset] [])) _
    refine Goes.by (fun _ kz => XS.iload X924.here hx rfl (hb hby at_453) rfl (XS.iconst X924.here hx rfl (hb hby at_455) (XS.icmpYes X924.here hx rfl (pc0 := 456) (pc' := 476) rfl (hb hby at_456) rfl (feq (by decide : ¬ ((5 : Int32) = (4 : Int32)))).2 (by decide) (by decide) kz))) ?_
    show Goes p e below (T924.setTop (mkF m 476 #[lv p1, .second, lv p2, .second, lv p3, .second, lv p4, .second, iv p5, iv p6, rv b1, iv z1, iv z2, iv oi, iv oj, iv ch0, iv ch1, iv ch2, iv zB, iv 5, iv (((p6.toUInt32 >>> ((4 : Int32) &&& 31).toUInt32).toInt32) &&& (3 : Int32)), rv b17, iv z1, rv b872, lv p1, .second, lv p2, .second, lv p4, .second, lv p4, .second, rv (own_o w oi), rv b885, .unset, .unset] [])) _
    refine Goes.by (fun _ kz => XS.iload X924.here hx rfl (hb hby at_476) rfl (XS.iconst X924.here hx rfl (hb hby at_478) (XS.icmpNo X924.here hx rfl (hb hby at_479) rfl (teq (by decide : (5 : Int32) = (5 : Int32))).2 kz))) ?_
    show Goes p e below (T924.setTop (mkF m 482 #[lv p1, .second, lv p2, .second, lv p3, .second, lv p4, .second, iv p5, iv p6, rv b1, iv z1, iv z2, iv oi, iv oj, iv ch0, iv ch1, iv ch2, iv zB, iv 5, iv (((p6.toUInt32 >>> ((4 : Int32) &&& 31).toUInt32).toInt32) &&& (3 : Int32)), rv b17, iv z1, rv b872, lv p1, .second, lv p2, .second, lv p4, .second, lv p4, .second, rv (own_o w oi), rv b885, .unset, .unset] [])) _
    refine Goes.by (fun _ kz => XS.lload X924.here hx rfl (hb hby at_482) rfl (XS.lload X924.here hx rfl (hb hby at_484) rfl (XS.lcmp X924.here hx rfl (hb hby at_486) rfl kz))) ?_
    show Goes p e below (T924.setTop (mkF m 487 #[lv p1, .second, lv p2, .second, lv p3, .second, lv p4, .second, iv p5, iv p6, rv b1, iv z1, iv z2, iv oi, iv oj, iv ch0, iv ch1, iv ch2, iv zB, iv 5, iv (((p6.toUInt32 >>> ((4 : Int32) &&& 31).toUInt32).toInt32) &&& (3 : Int32)), rv b17, iv z1, rv b872, lv p1, .second, lv p2, .second, lv p4, .second, lv p4, .second, rv (own_o w oi), rv b885, .unset, .unset] [(.int (lcmpW p3 p4))])) _
    refine Goes.join (fun ze : Int32 => (ze = 1 ∧ p3 = p4) ∨ (ze = 0 ∧ ¬ p3 = p4)) (fun ze => T924.setTop (mkF m 495 #[lv p1, .second, lv p2, .second, lv p3, .second, lv p4, .second, iv p5, iv p6, rv b1, iv z1, iv z2, iv oi, iv oj, iv ch0, iv ch1, iv ch2, iv zB, iv 5, iv (((p6.toUInt32 >>> ((4 : Int32) &&& 31).toUInt32).toInt32) &&& (3 : Int32)), rv b17, iv z1, rv b872, lv p1, .second, lv p2, .second, lv p4, .second, lv p4, .second, rv (own_o w oi), rv b885, .unset, .unset] [(.int ze)])) (fun J => ?_) (fun ze hze => ?_)
    · show Goes p e below (T924.setTop (mkF m 487 #[lv p1, .second, lv p2, .second, lv p3, .second, lv p4, .second, iv p5, iv p6, rv b1, iv z1, iv z2, iv oi, iv oj, iv ch0, iv ch1, iv ch2, iv zB, iv 5, iv (((p6.toUInt32 >>> ((4 : Int32) &&& 31).toUInt32).toInt32) &&& (3 : Int32)), rv b17, iv z1, rv b872, lv p1, .second, lv p2, .second, lv p4, .second, lv p4, .second, rv (own_o w oi), rv b885, .unset, .unset] [(.int (lcmpW p3 p4))])) _
      by_cases hc925 : p3 = p4
      · refine Goes.by (fun _ kz => XS.ifNo X924.here hx rfl (hb hby at_487) rfl ((if0 _ _).trans (teq (own_eq hc925)).2) (XS.iconst X924.here hx rfl (hb hby at_490) (XS.goto X924.here hx rfl (pc0 := 491) (pc' := 495) rfl (hb hby at_491) (by decide) (by decide) kz))) ?_
        show Goes p e below (T924.setTop (mkF m 495 #[lv p1, .second, lv p2, .second, lv p3, .second, lv p4, .second, iv p5, iv p6, rv b1, iv z1, iv z2, iv oi, iv oj, iv ch0, iv ch1, iv ch2, iv zB, iv 5, iv (((p6.toUInt32 >>> ((4 : Int32) &&& 31).toUInt32).toInt32) &&& (3 : Int32)), rv b17, iv z1, rv b872, lv p1, .second, lv p2, .second, lv p4, .second, lv p4, .second, rv (own_o w oi), rv b885, .unset, .unset] [(.int 1)])) _
        exact J (1 : Int32) (Or.inl ⟨rfl, hc925⟩)
      · refine Goes.by (fun _ kz => XS.ifYes X924.here hx rfl (pc0 := 487) (pc' := 494) rfl (hb hby at_487) rfl ((if0 _ _).trans (feq (own_neq hc925)).2) (by decide) (by decide) (XS.iconst X924.here hx rfl (hb hby at_494) kz)) ?_
        show Goes p e below (T924.setTop (mkF m 495 #[lv p1, .second, lv p2, .second, lv p3, .second, lv p4, .second, iv p5, iv p6, rv b1, iv z1, iv z2, iv oi, iv oj, iv ch0, iv ch1, iv ch2, iv zB, iv 5, iv (((p6.toUInt32 >>> ((4 : Int32) &&& 31).toUInt32).toInt32) &&& (3 : Int32)), rv b17, iv z1, rv b872, lv p1, .second, lv p2, .second, lv p4, .second, lv p4, .second, rv (own_o w oi), rv b885, .unset, .unset] [(.int 0)])) _
        exact J (0 : Int32) (Or.inr ⟨rfl, hc925⟩)
    show Goes p e below (T924.setTop (mkF m 495 #[lv p1, .second, lv p2, .second, lv p3, .second, lv p4, .second, iv p5, iv p6, rv b1, iv z1, iv z2, iv oi, iv oj, iv ch0, iv ch1, iv ch2, iv zB, iv 5, iv (((p6.toUInt32 >>> ((4 : Int32) &&& 31).toUInt32).toInt32) &&& (3 : Int32)), rv b17, iv z1, rv b872, lv p1, .second, lv p2, .second, lv p4, .second, lv p4, .second, rv (own_o w oi), rv b885, .unset, .unset] [(.int ze)])) _
    refine Goes.by (fun _ kz => XS.istore X924.here hx rfl (hb hby at_495) rfl rfl (XS.goto X924.here hx rfl (pc0 := 497) (pc' := 538) rfl (hb hby at_497) (by decide) (by decide) kz)) ?_
    show Goes p e below (T924.setTop (mkF m 538 #[lv p1, .second, lv p2, .second, lv p3, .second, lv p4, .second, iv p5, iv p6, rv b1, iv z1, iv z2, iv oi, iv oj, iv ch0, iv ch1, iv ch2, iv zB, iv 5, iv (((p6.toUInt32 >>> ((4 : Int32) &&& 31).toUInt32).toInt32) &&& (3 : Int32)), rv b17, iv z1, rv b872, lv p1, .second, lv p2, .second, lv p4, .second, lv p4, .second, rv (own_o w oi), rv b885, iv ze, .unset] [])) _
    have hsot := own_k (((p6.toUInt32 >>> ((4 : Int32) &&& 31).toUInt32).toInt32))
    obtain ⟨ot, hot⟩ : ∃ z, z = (((p6.toUInt32 >>> ((4 : Int32) &&& 31).toUInt32).toInt32) &&& (3 : Int32)) := ⟨_, rfl⟩
    rw [← hot] at hsot ⊢
    rcases hsot with rfl | rfl | rfl | rfl
    · show Goes p e below (T924.setTop (mkF m 538 #[lv p1, .second, lv p2, .second, lv p3, .second, lv p4, .second, iv p5, iv p6, rv b1, iv z1, iv z2, iv oi, iv oj, iv ch0, iv ch1, iv ch2, iv zB, iv 5, iv 0, rv b17, iv z1, rv b872, lv p1, .second, lv p2, .second, lv p4, .second, lv p4, .second, rv (own_o w oi), rv b885, iv ze, .unset] [])) _
      refine Goes.by (fun _ kz => XS.iload X924.here hx rfl (hb hby at_538) rfl (XS.iconst X924.here hx rfl (hb hby at_540) (XS.icmpYes X924.here hx rfl (pc0 := 541) (pc' := 552) rfl (hb hby at_541) rfl (feq (by decide : ¬ ((0 : Int32) = (1 : Int32)))).2 (by decide) (by decide) kz))) ?_
      show Goes p e below (T924.setTop (mkF m 552 #[lv p1, .second, lv p2, .second, lv p3, .second, lv p4, .second, iv p5, iv p6, rv b1, iv z1, iv z2, iv oi, iv oj, iv ch0, iv ch1, iv ch2, iv zB, iv 5, iv 0, rv b17, iv z1, rv b872, lv p1, .second, lv p2, .second, lv p4, .second, lv p4, .second, rv (own_o w oi), rv b885, iv ze, .unset] [])) _
      refine Goes.by (fun _ kz => XS.iload X924.here hx rfl (hb hby at_552) rfl (XS.iconst X924.here hx rfl (hb hby at_554) (XS.icmpYes X924.here hx rfl (pc0 := 555) (pc' := 573) rfl (hb hby at_555) rfl (feq (by decide : ¬ ((0 : Int32) = (2 : Int32)))).2 (by decide) (by decide) kz))) ?_
      show Goes p e below (T924.setTop (mkF m 573 #[lv p1, .second, lv p2, .second, lv p3, .second, lv p4, .second, iv p5, iv p6, rv b1, iv z1, iv z2, iv oi, iv oj, iv ch0, iv ch1, iv ch2, iv zB, iv 5, iv 0, rv b17, iv z1, rv b872, lv p1, .second, lv p2, .second, lv p4, .second, lv p4, .second, rv (own_o w oi), rv b885, iv ze, .unset] [])) _
      refine Goes.by (fun _ kz => XS.iload X924.here hx rfl (hb hby at_573) rfl (XS.iconst X924.here hx rfl (hb hby at_575) (XS.icmpYes X924.here hx rfl (pc0 := 576) (pc' := 612) rfl (hb hby at_576) rfl (feq (by decide : ¬ ((0 : Int32) = (3 : Int32)))).2 (by decide) (by decide) kz))) ?_
      show Goes p e below (T924.setTop (mkF m 612 #[lv p1, .second, lv p2, .second, lv p3, .second, lv p4, .second, iv p5, iv p6, rv b1, iv z1, iv z2, iv oi, iv oj, iv ch0, iv ch1, iv ch2, iv zB, iv 5, iv 0, rv b17, iv z1, rv b872, lv p1, .second, lv p2, .second, lv p4, .second, lv p4, .second, rv (own_o w oi), rv b885, iv ze, .unset] [])) _
      refine Goes.by (fun _ kz => XS.aload X924.here hx rfl (hb hby at_612) rfl rfl (XS.aload X924.here hx rfl (hb hby at_614) rfl rfl kz)) ?_
      have f926 := ((f909.keep Kq915).keep Kq924)
      have f927 := (((((Fld.other W882 (Fld.other W881 (fq81_0.ext E872) (Or.inl ne872_b17)) (Or.inl ne872_b17)).ext E885).ext E893).keep Kq915 (ninS ne893_b17 nin0)).keep Kq924 (ninS ne885_b17 nin0))
      have f928 := (((((Fld.other W882 (Fld.other W881 (fq81_1.ext E872) (Or.inl ne872_b17)) (Or.inl ne872_b17)).ext E885).ext E893).keep Kq915 (ninS ne893_b17 nin0)).keep Kq924 (ninS ne885_b17 nin0))
      have f929 := (((((Fld.other W882 (Fld.other W881 (fq81_2.ext E872) (Or.inl ne872_b17)) (Or.inl ne872_b17)).ext E885).ext E893).keep Kq915 (ninS ne893_b17 nin0)).keep Kq924 (ninS ne885_b17 nin0))
      have f930 := (((((Fld.other W882 (Fld.other W881 (fq81_3.ext E872) (Or.inl ne872_b17)) (Or.inl ne872_b17)).ext E885).ext E893).keep Kq915 (ninS ne893_b17 nin0)).keep Kq924 (ninS ne885_b17 nin0))
      have f931 := (((((Fld.other W882 (Fld.other W881 (fq81_4.ext E872) (Or.inl ne872_b17)) (Or.inl ne872_b17)).ext E885).ext E893).keep Kq915 (ninS ne893_b17 nin0)).keep Kq924 (ninS ne885_b17 nin0))
      have f932 := (((((Fld.other W882 (Fld.other W881 (fq81_5.ext E872) (Or.inl ne872_b17)) (Or.inl ne872_b17)).ext E885).ext E893).keep Kq915 (ninS ne893_b17 nin0)).keep Kq924 (ninS ne885_b17 nin0))
      have f933 := (((((Fld.other W882 (Fld.other W881 (fq81_6.ext E872) (Or.inl ne872_b17)) (Or.inl ne872_b17)).ext E885).ext E893).keep Kq915 (ninS ne893_b17 nin0)).keep Kq924 (ninS ne885_b17 nin0))
      have f934 := ((f910.keep Kq915).keep Kq924)
      have f935 := (((((Fld.other W882 (Fld.other W881 ((gV44.keep Kq81 (ninS (Ne.symm ne21_b17) nin0)).ext E872) (Or.inl ne872_b21)) (Or.inl ne872_b21)).ext E885).ext E893).keep Kq915 (ninS ne893_b21 nin0)).keep Kq924 (ninS ne885_b21 nin0))
      have f936 := (((((Fld.other W882 (Fld.other W881 ((gC44.keep Kq81 (ninS (Ne.symm ne21_b17) nin0)).ext E872) (Or.inl ne872_b21)) (Or.inl ne872_b21)).ext E885).ext E893).keep Kq915 (ninS ne893_b21 nin0)).keep Kq924 (ninS ne885_b21 nin0))
      have f937 := ((f912.keep Kq915 (ninS ne893_t44 nin0)).keep Kq924 (ninS ne885_t44 nin0))
      have f938 := (f916.keep Kq924)
      have f939 := ((A893.keep Kq915).keep Kq924)
      have f940 := (gV915.keep Kq924 (ninS (Ne.symm ne893_b885) nin0))
      have f941 := (gC915.keep Kq924 (ninS (Ne.symm ne893_b885) nin0))
      have f942 := (gA915.keep Kq924 (ninS (Ne.symm net915_b885) nin0))
      have f943 := (own_staKeep (own_staKeep f904 Kq915 (allS (own_nsE A893) all0)) Kq924 (allS (own_nsE f916) all0))
      obtain ⟨cq944, kq944, q944a, q944b, q944c⟩ := isOf hZ rfl f926
      obtain ⟨_, _, ⟨T944, L944, k944, n944⟩, -, X944, ⟨Lc944, hQ944, l944, y944, z944⟩, st944⟩ := X924.virtualBack hx (y := (⟨"com/example/killdeer/killdeer/GadgetView", "equals", "(Ljava/lang/Object;)Z"⟩ : MethodName)) (z := (⟨"com/example/killdeer/killdeer/GadgetView", "equals", "(Ljava/lang/Object;)Z"⟩ : MethodName)) hown (mvT hZ (wd hw 61 rfl)) (mvT hZ (wd hw 62 rfl)) (notFace_of_selects (args := #[]) (mvT hZ (wd hw 64 rfl))) (mvT hZ (wd hw 64 rfl)) (mvT hZ (wd hw 63 rfl)) (by decide) (backOf (W := 0) (r8_0 l Z a0 hw [] T924.heap n0 Z924 b17 b885 (nar .boolean z1) (nar .boolean z1) b21 b893 t44 t915 kb44 kb915 ([ch0, ch1] : List Int32) ([ch0, ch1] : List Int32) (2 : Int32) (2 : Int32) ((([ch0, ch1] : List Int32).map (fun c => c.toInt8.toInt32)).map Value.int) ((([ch0, ch1] : List Int32).map (fun c => c.toInt8.toInt32)).map Value.int) p1 p1 p2 p2 p3 p4 p4 p4 (own_o w oi) (own_o w oi) zc f926 f927 f928 f929 f930 f931 f932 f933 f934 f935 f936 f937 hcd43 hbd43 (by simp) f938 fq924_0 fq924_1 fq924_2 fq924_3 fq924_4 fq924_5 fq924_6 f939 f940 f941 f942 hcd914 hbd914 (by simp) f943 hzc ne885_b17) hZ (wd hw 65 rfl) (wd hw 12 rfl) (by decide) (by decide)) q944a q944c (g := (mkF m 616 #[lv p1, .second, lv p2, .second, lv p3, .second, lv p4, .second, iv p5, iv p6, rv b1, iv z1, iv z2, iv oi, iv oj, iv ch0, iv ch1, iv ch2, iv zB, iv 5, iv 0, rv b17, iv z1, rv b872, lv p1, .second, lv p2, .second, lv p4, .second, lv p4, .second, rv (own_o w oi), rv b885, iv ze, .unset] [(.ref b885), (.ref b17)])) rfl (by rw [hml]; rfl) (Steps.refl _) (argsL := [(.ref b885)]) (rest := []) (lenOf pd2 rfl) rfl (by show 2 * 0 + _ ≤ _; exact Nat.le_of_eq rfl) (hb hby at_616) (fun _ _ => ⟨rfl, rfl, (by decide : 9 + 0 ≤ _), (by decide : 33 + 0 ≤ _)⟩)
      dsimp only [Pt.U, Pt.locs, Pt.cells, Pt.slots] at X944 l944 y944 z944 st944 hQ944
      subst l944 y944 z944
      rcases hQ944 with hQ944 | hQ944
      · obtain ⟨rfl, Nq944, e944, hS944⟩ := hQ944
        have N944 := Fr.app N924 Nq944
        refine Goes.tr st944 ?_
        refine Goes.by (fun _ kz => XS.iload X944.here hx rfl (hb hby at_619) rfl kz) ?_
        show Goes p e below (T944.setTop (mkF m 621 #[lv p1, .second, lv p2, .second, lv p3, .second, lv p4, .second, iv p5, iv p6, rv b1, iv z1, iv z2, iv oi, iv oj, iv ch0, iv ch1, iv ch2, iv zB, iv 5, iv 0, rv b17, iv z1, rv b872, lv p1, .second, lv p2, .second, lv p4, .second, lv p4, .second, rv (own_o w oi), rv b885, iv ze, .unset] [(.int ze), (.int 1)])) _
        by_cases hc945 : (1 : Int32) = ze
        · refine Goes.by (fun _ kz => XS.icmpNo X944.here hx rfl (hb hby at_621) rfl (teq hc945).2 (XS.aload X944.here hx rfl (hb hby at_624) rfl rfl (XS.aload X944.here hx rfl (hb hby at_626) rfl rfl kz))) ?_
          obtain ⟨cq946, kq946, q946a, q946b, q946c⟩ := isOf hZ e944 f938
          obtain ⟨_, _, ⟨T946, L946, k946, n946⟩, -, X946, ⟨Lc946, hQ946, l946, y946, z946⟩, st946⟩ := X944.virtualBack hx (y := (⟨"com/example/killdeer/killdeer/GadgetView", "equals", "(Ljava/lang/Object;)Z"⟩ : MethodName)) (z := (⟨"com/example/killdeer/killdeer/GadgetView", "equals", "(Ljava/lang/Object;)Z"⟩ : MethodName)) hown (mvT hZ (wd hw 61 rfl)) (mvT hZ (wd hw 62 rfl)) (notFace_of_selects (args := #[]) (mvT hZ (wd hw 64 rfl))) (mvT hZ (wd hw 64 rfl)) (mvT hZ (wd hw 63 rfl)) (by decide) (backOf (W := 0) (r8_0 l Z a0 hw [] T924.heap n0 Z924 b885 b17 (nar .boolean z1) (nar .boolean z1) b893 b21 t915 t44 kb915 kb44 ([ch0, ch1] : List Int32) ([ch0, ch1] : List Int32) (2 : Int32) (2 : Int32) ((([ch0, ch1] : List Int32).map (fun c => c.toInt8.toInt32)).map Value.int) ((([ch0, ch1] : List Int32).map (fun c => c.toInt8.toInt32)).map Value.int) p1 p1 p2 p2 p4 p3 p4 p4 (own_o w oi) (own_o w oi) zc f938 fq924_0 fq924_1 fq924_2 fq924_3 fq924_4 fq924_5 fq924_6 f939 f940 f941 f942 hcd914 hbd914 (by simp) f926 f927 f928 f929 f930 f931 f932 f933 f934 f935 f936 f937 hcd43 hbd43 (by simp) f943 hzc (Ne.symm ne885_b17)) hZ (wd hw 65 rfl) (wd hw 12 rfl) (by decide) (by decide)) q946a q946c (g := (mkF m 628 #[lv p1, .second, lv p2, .second, lv p3, .second, lv p4, .second, iv p5, iv p6, rv b1, iv z1, iv z2, iv oi, iv oj, iv ch0, iv ch1, iv ch2, iv zB, iv 5, iv 0, rv b17, iv z1, rv b872, lv p1, .second, lv p2, .second, lv p4, .second, lv p4, .second, rv (own_o w oi), rv b885, iv ze, .unset] [(.ref b17), (.ref b885)])) rfl (by rw [hml]; rfl) (Steps.refl _) (argsL := [(.ref b17)]) (rest := []) (lenOf pd2 rfl) rfl (by show 2 * 0 + _ ≤ _; exact Nat.le_of_eq rfl) (hb hby at_628) (fun _ _ => ⟨rfl, e944, (by decide : 9 + 0 ≤ _), (by decide : 33 + 0 ≤ _)⟩)
          dsimp only [Pt.U, Pt.locs, Pt.cells, Pt.slots] at X946 l946 y946 z946 st946 hQ946
          subst l946 y946 z946
          rcases hQ946 with hQ946 | hQ946
          · obtain ⟨rfl, Nq946, e946, hS946⟩ := hQ946
            have N946 := Fr.app N944 Nq946
            refine Goes.tr st946 ?_
            refine Goes.by (fun _ kz => XS.iload X946.here hx rfl (hb hby at_631) rfl (XS.icmpNo X946.here hx rfl (hb hby at_633) rfl (teq hc945).2 (XS.iconst X946.here hx rfl (hb hby at_636) kz))) ?_
            show Goes p e below (T946.setTop (mkF m 637 #[lv p1, .second, lv p2, .second, lv p3, .second, lv p4, .second, iv p5, iv p6, rv b1, iv z1, iv z2, iv oi, iv oj, iv ch0, iv ch1, iv ch2, iv zB, iv 5, iv 0, rv b17, iv z1, rv b872, lv p1, .second, lv p2, .second, lv p4, .second, lv p4, .second, rv (own_o w oi), rv b885, iv ze, .unset] [(.int 1)])) _
            refine Goes.by (fun _ kz => XS.goto X946.here hx rfl (pc0 := 637) (pc' := 641) rfl (hb hby at_637) (by decide) (by decide) kz) ?_
            show Goes p e below (T946.setTop (mkF m 641 #[lv p1, .second, lv p2, .second, lv p3, .second, lv p4, .second, iv p5, iv p6, rv b1, iv z1, iv z2, iv oi, iv oj, iv ch0, iv ch1, iv ch2, iv zB, iv 5, iv 0, rv b17, iv z1, rv b872, lv p1, .second, lv p2, .second, lv p4, .second, lv p4, .second, rv (own_o w oi), rv b885, iv ze, .unset] [(.int 1)])) _
            obtain ⟨fs, hr, hrun, hended, hW, hsame⟩ := X946.leave (v := some (.int 1)) (fun h => by rw [Bd.returns] at h; cases h)
            exact ⟨_, _, retN X946 hx (t := .boolean) Bd.returns (by simp) (hb hby at_641) hr, hrun, hended, _, _, rfl, ⟨rfl, N946⟩, ⟨_, rfl⟩, hW, hsame.mono (by decide) (by decide)⟩
          · obtain ⟨rfl, Nq946, e946, hS946⟩ := hQ946
            have N946 := Fr.app N944 Nq946
            refine Goes.tr st946 ?_
            refine Goes.by (fun _ kz => XS.iload X946.here hx rfl (hb hby at_631) rfl (XS.icmpYes X946.here hx rfl (pc0 := 633) (pc' := 640) rfl (hb hby at_633) rfl (feq (by rw [← hc945]; decide : ¬ ((0 : Int32) = ze))).2 (by decide) (by decide) (XS.iconst X946.here hx rfl (hb hby at_640) kz))) ?_
            show Goes p e below (T946.setTop (mkF m 641 #[lv p1, .second, lv p2, .second, lv p3, .second, lv p4, .second, iv p5, iv p6, rv b1, iv z1, iv z2, iv oi, iv oj, iv ch0, iv ch1, iv ch2, iv zB, iv 5, iv 0, rv b17, iv z1, rv b872, lv p1, .second, lv p2, .second, lv p4, .second, lv p4, .second, rv (own_o w oi), rv b885, iv ze, .unset] [(.int 0)])) _
            exfalso
            rcases hze with ⟨hz, hC⟩ | ⟨hz, hC⟩
            · first | (rw [hz] at hc945; exact absurd hc945 (by decide)) | (revert hS946; simp [own_same, own_nb hz1, own_nb hz2, own_oinj pne01 pne02 pne12 h_oi h_oj, own_oinj pne01 pne02 pne12 h_oj h_oi, hC]; done)
            · first | (rw [hz] at hc945; exact absurd hc945 (by decide)) | (revert hS946; simp [own_same, own_nb hz1, own_nb hz2, own_oinj pne01 pne02 pne12 h_oi h_oj, own_oinj pne01 pne02 pne12 h_oj h_oi, hC, Ne.symm hC]; done)
        · refine Goes.by (fun _ kz => XS.icmpYes X944.here hx rfl (pc0 := 621) (pc' := 640) rfl (hb hby at_621) rfl (feq hc945).2 (by decide) (by decide) (XS.iconst X944.here hx rfl (hb hby at_640) kz)) ?_
          show Goes p e below (T944.setTop (mkF m 641 #[lv p1, .second, lv p2, .second, lv p3, .second, lv p4, .second, iv p5, iv p6, rv b1, iv z1, iv z2, iv oi, iv oj, iv ch0, iv ch1, iv ch2, iv zB, iv 5, iv 0, rv b17, iv z1, rv b872, lv p1, .second, lv p2, .second, lv p4, .second, lv p4, .second, rv (own_o w oi), rv b885, iv ze, .unset] [(.int 0)])) _
          exfalso
          rcases hze with ⟨hz, hC⟩ | ⟨hz, hC⟩
          · first | (rw [hz] at hc945; exact absurd hc945 (by decide)) | (revert hS944; simp [own_same, own_nb hz1, own_nb hz2, own_oinj pne01 pne02 pne12 h_oi h_oj, own_oinj pne01 pne02 pne12 h_oj h_oi, hC]; done)
          · first | (rw [hz] at hc945; exact absurd hc945 (by decide)) | (revert hS944; simp [own_same, own_nb hz1, own_nb hz2, own_oinj pne01 pne02 pne12 h_oi h_oj, own_oinj pne01 pne02 pne12 h_oj h_oi, hC, Ne.symm hC]; done)
      · obtain ⟨rfl, Nq944, e944, hS944⟩ := hQ944
        have N944 := Fr.app N924 Nq944
        refine Goes.tr st944 ?_
        refine Goes.by (fun _ kz => XS.iload X944.here hx rfl (hb hby at_619) rfl kz) ?_
        show Goes p e below (T944.setTop (mkF m 621 #[lv p1, .second, lv p2, .second, lv p3, .second, lv p4, .second, iv p5, iv p6, rv b1, iv z1, iv z2, iv oi, iv oj, iv ch0, iv ch1, iv ch2, iv zB, iv 5, iv 0, rv b17, iv z1, rv b872, lv p1, .second, lv p2, .second, lv p4, .second, lv p4, .second, rv (own_o w oi), rv b885, iv ze, .unset] [(.int ze), (.int 0)])) _
        by_cases hc947 : (0 : Int32) = ze
        · refine Goes.by (fun _ kz => XS.icmpNo X944.here hx rfl (hb hby at_621) rfl (teq hc947).2 (XS.aload X944.here hx rfl (hb hby at_624) rfl rfl (XS.aload X944.here hx rfl (hb hby at_626) rfl rfl kz))) ?_
          obtain ⟨cq948, kq948, q948a, q948b, q948c⟩ := isOf hZ e944 f938
          obtain ⟨_, _, ⟨T948, L948, k948, n948⟩, -, X948, ⟨Lc948, hQ948, l948, y948, z948⟩, st948⟩ := X944.virtualBack hx (y := (⟨"com/example/killdeer/killdeer/GadgetView", "equals", "(Ljava/lang/Object;)Z"⟩ : MethodName)) (z := (⟨"com/example/killdeer/killdeer/GadgetView", "equals", "(Ljava/lang/Object;)Z"⟩ : MethodName)) hown (mvT hZ (wd hw 61 rfl)) (mvT hZ (wd hw 62 rfl)) (notFace_of_selects (args := #[]) (mvT hZ (wd hw 64 rfl))) (mvT hZ (wd hw 64 rfl)) (mvT hZ (wd hw 63 rfl)) (by decide) (backOf (W := 0) (r8_0 l Z a0 hw [] T924.heap n0 Z924 b885 b17 (nar .boolean z1) (nar .boolean z1) b893 b21 t915 t44 kb915 kb44 ([ch0, ch1] : List Int32) ([ch0, ch1] : List Int32) (2 : Int32) (2 : Int32) ((([ch0, ch1] : List Int32).map (fun c => c.toInt8.toInt32)).map Value.int) ((([ch0, ch1] : List Int32).map (fun c => c.toInt8.toInt32)).map Value.int) p1 p1 p2 p2 p4 p3 p4 p4 (own_o w oi) (own_o w oi) zc f938 fq924_0 fq924_1 fq924_2 fq924_3 fq924_4 fq924_5 fq924_6 f939 f940 f941 f942 hcd914 hbd914 (by simp) f926 f927 f928 f929 f930 f931 f932 f933 f934 f935 f936 f937 hcd43 hbd43 (by simp) f943 hzc (Ne.symm ne885_b17)) hZ (wd hw 65 rfl) (wd hw 12 rfl) (by decide) (by decide)) q948a q948c (g := (mkF m 628 #[lv p1, .second, lv p2, .second, lv p3, .second, lv p4, .second, iv p5, iv p6, rv b1, iv z1, iv z2, iv oi, iv oj, iv ch0, iv ch1, iv ch2, iv zB, iv 5, iv 0, rv b17, iv z1, rv b872, lv p1, .second, lv p2, .second, lv p4, .second, lv p4, .second, rv (own_o w oi), rv b885, iv ze, .unset] [(.ref b17), (.ref b885)])) rfl (by rw [hml]; rfl) (Steps.refl _) (argsL := [(.ref b17)]) (rest := []) (lenOf pd2 rfl) rfl (by show 2 * 0 + _ ≤ _; exact Nat.le_of_eq rfl) (hb hby at_628) (fun _ _ => ⟨rfl, e944, (by decide : 9 + 0 ≤ _), (by decide : 33 + 0 ≤ _)⟩)
          dsimp only [Pt.U, Pt.locs, Pt.cells, Pt.slots] at X948 l948 y948 z948 st948 hQ948
          subst l948 y948 z948
          rcases hQ948 with hQ948 | hQ948
          · obtain ⟨rfl, Nq948, e948, hS948⟩ := hQ948
            have N948 := Fr.app N944 Nq948
            refine Goes.tr st948 ?_
            refine Goes.by (fun _ kz => XS.iload X948.here hx rfl (hb hby at_631) rfl (XS.icmpYes X948.here hx rfl (pc0 := 633) (pc' := 640) rfl (hb hby at_633) rfl (feq (by rw [← hc947]; decide : ¬ ((1 : Int32) = ze))).2 (by decide) (by decide) (XS.iconst X948.here hx rfl (hb hby at_640) kz))) ?_
            show Goes p e below (T948.setTop (mkF m 641 #[lv p1, .second, lv p2, .second, lv p3, .second, lv p4, .second, iv p5, iv p6, rv b1, iv z1, iv z2, iv oi, iv oj, iv ch0, iv ch1, iv ch2, iv zB, iv 5, iv 0, rv b17, iv z1, rv b872, lv p1, .second, lv p2, .second, lv p4, .second, lv p4, .second, rv (own_o w oi), rv b885, iv ze, .unset] [(.int 0)])) _
            exfalso
            rcases hze with ⟨hz, hC⟩ | ⟨hz, hC⟩
            · first | (rw [hz] at hc947; exact absurd hc947 (by decide)) | (revert hS948; simp [own_same, own_nb hz1, own_nb hz2, own_oinj pne01 pne02 pne12 h_oi h_oj, own_oinj pne01 pne02 pne12 h_oj h_oi, hC]; done)
            · first | (rw [hz] at hc947; exact absurd hc947 (by decide)) | (revert hS948; simp [own_same, own_nb hz1, own_nb hz2, own_oinj pne01 pne02 pne12 h_oi h_oj, own_oinj pne01 pne02 pne12 h_oj h_oi, hC, Ne.symm hC]; done)
          · obtain ⟨rfl, Nq948, e948, hS948⟩ := hQ948
            have N948 := Fr.app N944 Nq948
            refine Goes.tr st948 ?_
            refine Goes.by (fun _ kz => XS.iload X948.here hx rfl (hb hby at_631) rfl (XS.icmpNo X948.here hx rfl (hb hby at_633) rfl (teq hc947).2 (XS.iconst X948.here hx rfl (hb hby at_636) kz))) ?_
            show Goes p e below (T948.setTop (mkF m 637 #[lv p1, .second, lv p2, .second, lv p3, .second, lv p4, .second, iv p5, iv p6, rv b1, iv z1, iv z2, iv oi, iv oj, iv ch0, iv ch1, iv ch2, iv zB, iv 5, iv 0, rv b17, iv z1, rv b872, lv p1, .second, lv p2, .second, lv p4, .second, lv p4, .second, rv (own_o w oi), rv b885, iv ze, .unset] [(.int 1)])) _
            refine Goes.by (fun _ kz => XS.goto X948.here hx rfl (pc0 := 637) (pc' := 641) rfl (hb hby at_637) (by decide) (by decide) kz) ?_
            show Goes p e below (T948.setTop (mkF m 641 #[lv p1, .second, lv p2, .second, lv p3, .second, lv p4, .second, iv p5, iv p6, rv b1, iv z1, iv z2, iv oi, iv oj, iv ch0, iv ch1, iv ch2, iv zB, iv 5, iv 0, rv b17, iv z1, rv b872, lv p1, .second, lv p2, .second, lv p4, .second, lv p4, .second, rv (own_o w oi), rv b885, iv ze, .unset] [(.int 1)])) _
            obtain ⟨fs, hr, hrun, hended, hW, hsame⟩ := X948.leave (v := some (.int 1)) (fun h => by rw [Bd.returns] at h; cases h)
            exact ⟨_, _, retN X948 hx (t := .boolean) Bd.returns (by simp) (hb hby at_641) hr, hrun, hended, _, _, rfl, ⟨rfl, N948⟩, ⟨_, rfl⟩, hW, hsame.mono (by decide) (by decide)⟩
        · refine Goes.by (fun _ kz => XS.icmpYes X944.here hx rfl (pc0 := 621) (pc' := 640) rfl (hb hby at_621) rfl (feq hc947).2 (by decide) (by decide) (XS.iconst X944.here hx rfl (hb hby at_640) kz)) ?_
          show Goes p e below (T944.setTop (mkF m 641 #[lv p1, .second, lv p2, .second, lv p3, .second, lv p4, .second, iv p5, iv p6, rv b1, iv z1, iv z2, iv oi, iv oj, iv ch0, iv ch1, iv ch2, iv zB, iv 5, iv 0, rv b17, iv z1, rv b872, lv p1, .second, lv p2, .second, lv p4, .second, lv p4, .second, rv (own_o w oi), rv b885, iv ze, .unset] [(.int 0)])) _
          exfalso
          rcases hze with ⟨hz, hC⟩ | ⟨hz, hC⟩
          · first | (rw [hz] at hc947; exact absurd hc947 (by decide)) | (revert hS944; simp [own_same, own_nb hz1, own_nb hz2, own_oinj pne01 pne02 pne12 h_oi h_oj, own_oinj pne01 pne02 pne12 h_oj h_oi, hC]; done)
          · first | (rw [hz] at hc947; exact absurd hc947 (by decide)) | (revert hS944; simp [own_same, own_nb hz1, own_nb hz2, own_oinj pne01 pne02 pne12 h_oi h_oj, own_oinj pne01 pne02 pne12 h_oj h_oi, hC, Ne.symm hC]; done)
    · show Goes p e below (T924.setTop (mkF m 538 #[lv p1, .second, lv p2, .second, lv p3, .second, lv p4, .second, iv p5, iv p6, rv b1, iv z1, iv z2, iv oi, iv oj, iv ch0, iv ch1, iv ch2, iv zB, iv 5, iv 1, rv b17, iv z1, rv b872, lv p1, .second, lv p2, .second, lv p4, .second, lv p4, .second, rv (own_o w oi), rv b885, iv ze, .unset] [])) _
      refine Goes.by (fun _ kz => XS.iload X924.here hx rfl (hb hby at_538) rfl (XS.iconst X924.here hx rfl (hb hby at_540) (XS.icmpNo X924.here hx rfl (hb hby at_541) rfl (teq (by decide : (1 : Int32) = (1 : Int32))).2 kz))) ?_
      show Goes p e below (T924.setTop (mkF m 544 #[lv p1, .second, lv p2, .second, lv p3, .second, lv p4, .second, iv p5, iv p6, rv b1, iv z1, iv z2, iv oi, iv oj, iv ch0, iv ch1, iv ch2, iv zB, iv 5, iv 1, rv b17, iv z1, rv b872, lv p1, .second, lv p2, .second, lv p4, .second, lv p4, .second, rv (own_o w oi), rv b885, iv ze, .unset] [])) _
      refine Goes.by (fun _ kz => XS.aload X924.here hx rfl (hb hby at_544) rfl rfl (XS.aload X924.here hx rfl (hb hby at_546) rfl rfl kz)) ?_
      have f950 := ((f909.keep Kq915).keep Kq924)
      obtain ⟨cq949, kq949, q949a, q949b, q949c⟩ := isOf hZ rfl f950
      obtain ⟨_, _, ⟨T949, L949, k949, n949⟩, -, X949, ⟨Lc949, hQ949, l949, y949, z949⟩, st949⟩ := X924.virtualBack hx (y := (⟨"com/example/killdeer/killdeer/GadgetView", "equals", "(Ljava/lang/Object;)Z"⟩ : MethodName)) (z := (⟨"com/example/killdeer/killdeer/GadgetView", "equals", "(Ljava/lang/Object;)Z"⟩ : MethodName)) hown (mvT hZ (wd hw 61 rfl)) (mvT hZ (wd hw 62 rfl)) (notFace_of_selects (args := #[]) (mvT hZ (wd hw 64 rfl))) (mvT hZ (wd hw 64 rfl)) (mvT hZ (wd hw 63 rfl)) (by decide) (backOf (W := 0) (r8_same l Z a0 hw [] T924.heap n0 Z924 b17) hZ (wd hw 65 rfl) (wd hw 12 rfl) (by decide) (by decide)) q949a q949c (g := (mkF m 548 #[lv p1, .second, lv p2, .second, lv p3, .second, lv p4, .second, iv p5, iv p6, rv b1, iv z1, iv z2, iv oi, iv oj, iv ch0, iv ch1, iv ch2, iv zB, iv 5, iv 1, rv b17, iv z1, rv b872, lv p1, .second, lv p2, .second, lv p4, .second, lv p4, .second, rv (own_o w oi), rv b885, iv ze, .unset] [(.ref b17), (.ref b17)])) rfl (by rw [hml]; rfl) (Steps.refl _) (argsL := [(.ref b17)]) (rest := []) (lenOf pd2 rfl) rfl (by show 2 * 0 + _ ≤ _; exact Nat.le_of_eq rfl) (hb hby at_548) (fun _ _ => ⟨rfl, rfl, (by decide : 9 + 0 ≤ _), (by decide : 33 + 0 ≤ _)⟩)
      dsimp only [Pt.U, Pt.locs, Pt.cells, Pt.slots] at X949 l949 y949 z949 st949 hQ949
      subst l949 y949 z949
      obtain ⟨rfl, Nq949, e949⟩ := hQ949
      have N949 := Fr.app N924 Nq949
      refine Goes.tr st949 ?_
      show Goes p e below (T949.setTop (mkF m 551 #[lv p1, .second, lv p2, .second, lv p3, .second, lv p4, .second, iv p5, iv p6, rv b1, iv z1, iv z2, iv oi, iv oj, iv ch0, iv ch1, iv ch2, iv zB, iv 5, iv 1, rv b17, iv z1, rv b872, lv p1, .second, lv p2, .second, lv p4, .second, lv p4, .second, rv (own_o w oi), rv b885, iv ze, .unset] [(.int 1)])) _
      obtain ⟨fs, hr, hrun, hended, hW, hsame⟩ := X949.leave (v := some (.int 1)) (fun h => by rw [Bd.returns] at h; cases h)
      exact ⟨_, _, retN X949 hx (t := .boolean) Bd.returns (by simp) (hb hby at_551) hr, hrun, hended, _, _, rfl, ⟨rfl, N949⟩, ⟨_, rfl⟩, hW, hsame.mono (by decide) (by decide)⟩
    · show Goes p e below (T924.setTop (mkF m 538 #[lv p1, .second, lv p2, .second, lv p3, .second, lv p4, .second, iv p5, iv p6, rv b1, iv z1, iv z2, iv oi, iv oj, iv ch0, iv ch1, iv ch2, iv zB, iv 5, iv 2, rv b17, iv z1, rv b872, lv p1, .second, lv p2, .second, lv p4, .second, lv p4, .second, rv (own_o w oi), rv b885, iv ze, .unset] [])) _
      refine Goes.by (fun _ kz => XS.iload X924.here hx rfl (hb hby at_538) rfl (XS.iconst X924.here hx rfl (hb hby at_540) (XS.icmpYes X924.here hx rfl (pc0 := 541) (pc' := 552) rfl (hb hby at_541) rfl (feq (by decide : ¬ ((2 : Int32) = (1 : Int32)))).2 (by decide) (by decide) kz))) ?_
      show Goes p e below (T924.setTop (mkF m 552 #[lv p1, .second, lv p2, .second, lv p3, .second, lv p4, .second, iv p5, iv p6, rv b1, iv z1, iv z2, iv oi, iv oj, iv ch0, iv ch1, iv ch2, iv zB, iv 5, iv 2, rv b17, iv z1, rv b872, lv p1, .second, lv p2, .second, lv p4, .second, lv p4, .second, rv (own_o w oi), rv b885, iv ze, .unset] [])) _
      refine Goes.by (fun _ kz => XS.iload X924.here hx rfl (hb hby at_552) rfl (XS.iconst X924.here hx rfl (hb hby at_554) (XS.icmpNo X924.here hx rfl (hb hby at_555) rfl (teq (by decide : (2 : Int32) = (2 : Int32))).2 kz))) ?_
      show Goes p e below (T924.setTop (mkF m 558 #[lv p1, .second, lv p2, .second, lv p3, .second, lv p4, .second, iv p5, iv p6, rv b1, iv z1, iv z2, iv oi, iv oj, iv ch0, iv ch1, iv ch2, iv zB, iv 5, iv 2, rv b17, iv z1, rv b872, lv p1, .second, lv p2, .second, lv p4, .second, lv p4, .second, rv (own_o w oi), rv b885, iv ze, .unset] [])) _
      refine Goes.by (fun _ kz => XS.aload X924.here hx rfl (hb hby at_558) rfl rfl (XS.aconstNull X924.here hx rfl (hb hby at_560) kz)) ?_
      have f952 := ((f909.keep Kq915).keep Kq924)
      obtain ⟨cq951, kq951, q951a, q951b, q951c⟩ := isOf hZ rfl f952
      obtain ⟨_, _, ⟨T951, L951, k951, n951⟩, -, X951, ⟨Lc951, hQ951, l951, y951, z951⟩, st951⟩ := X924.virtualBack hx (y := (⟨"com/example/killdeer/killdeer/GadgetView", "equals", "(Ljava/lang/Object;)Z"⟩ : MethodName)) (z := (⟨"com/example/killdeer/killdeer/GadgetView", "equals", "(Ljava/lang/Object;)Z"⟩ : MethodName)) hown (mvT hZ (wd hw 61 rfl)) (mvT hZ (wd hw 62 rfl)) (notFace_of_selects (args := #[]) (mvT hZ (wd hw 64 rfl))) (mvT hZ (wd hw 64 rfl)) (mvT hZ (wd hw 63 rfl)) (by decide) (backOf (W := 0) (r8_null l Z a0 hw [] T924.heap n0 Z924 b17) hZ (wd hw 65 rfl) (wd hw 12 rfl) (by decide) (by decide)) q951a q951c (g := (mkF m 561 #[lv p1, .second, lv p2, .second, lv p3, .second, lv p4, .second, iv p5, iv p6, rv b1, iv z1, iv z2, iv oi, iv oj, iv ch0, iv ch1, iv ch2, iv zB, iv 5, iv 2, rv b17, iv z1, rv b872, lv p1, .second, lv p2, .second, lv p4, .second, lv p4, .second, rv (own_o w oi), rv b885, iv ze, .unset] [.null, (.ref b17)])) rfl (by rw [hml]; rfl) (Steps.refl _) (argsL := [.null]) (rest := []) (lenOf pd2 rfl) rfl (by show 2 * 0 + _ ≤ _; exact Nat.le_of_eq rfl) (hb hby at_561) (fun _ _ => ⟨rfl, rfl, (by decide : 9 + 0 ≤ _), (by decide : 33 + 0 ≤ _)⟩)
      dsimp only [Pt.U, Pt.locs, Pt.cells, Pt.slots] at X951 l951 y951 z951 st951 hQ951
      subst l951 y951 z951
      obtain ⟨rfl, Nq951, e951⟩ := hQ951
      have N951 := Fr.app N924 Nq951
      refine Goes.tr st951 ?_
      refine Goes.by (fun _ kz => XS.ifNo X951.here hx rfl (hb hby at_564) rfl ((if0 _ _).trans (teq (by decide : (0 : Int32) = (0 : Int32))).2) (XS.iconst X951.here hx rfl (hb hby at_567) (XS.goto X951.here hx rfl (pc0 := 568) (pc' := 572) rfl (hb hby at_568) (by decide) (by decide) kz))) ?_
      show Goes p e below (T951.setTop (mkF m 572 #[lv p1, .second, lv p2, .second, lv p3, .second, lv p4, .second, iv p5, iv p6, rv b1, iv z1, iv z2, iv oi, iv oj, iv ch0, iv ch1, iv ch2, iv zB, iv 5, iv 2, rv b17, iv z1, rv b872, lv p1, .second, lv p2, .second, lv p4, .second, lv p4, .second, rv (own_o w oi), rv b885, iv ze, .unset] [(.int 1)])) _
      obtain ⟨fs, hr, hrun, hended, hW, hsame⟩ := X951.leave (v := some (.int 1)) (fun h => by rw [Bd.returns] at h; cases h)
      exact ⟨_, _, retN X951 hx (t := .boolean) Bd.returns (by simp) (hb hby at_572) hr, hrun, hended, _, _, rfl, ⟨rfl, N951⟩, ⟨_, rfl⟩, hW, hsame.mono (by decide) (by decide)⟩
    · show Goes p e below (T924.setTop (mkF m 538 #[lv p1, .second, lv p2, .second, lv p3, .second, lv p4, .second, iv p5, iv p6, rv b1, iv z1, iv z2, iv oi, iv oj, iv ch0, iv ch1, iv ch2, iv zB, iv 5, iv 3, rv b17, iv z1, rv b872, lv p1, .second, lv p2, .second, lv p4, .second, lv p4, .second, rv (own_o w oi), rv b885, iv ze, .unset] [])) _
      refine Goes.by (fun _ kz => XS.iload X924.here hx rfl (hb hby at_538) rfl (XS.iconst X924.here hx rfl (hb hby at_540) (XS.icmpYes X924.here hx rfl (pc0 := 541) (pc' := 552) rfl (hb hby at_541) rfl (feq (by decide : ¬ ((3 : Int32) = (1 : Int32)))).2 (by decide) (by decide) kz))) ?_
      show Goes p e below (T924.setTop (mkF m 552 #[lv p1, .second, lv p2, .second, lv p3, .second, lv p4, .second, iv p5, iv p6, rv b1, iv z1, iv z2, iv oi, iv oj, iv ch0, iv ch1, iv ch2, iv zB, iv 5, iv 3, rv b17, iv z1, rv b872, lv p1, .second, lv p2, .second, lv p4, .second, lv p4, .second, rv (own_o w oi), rv b885, iv ze, .unset] [])) _
      refine Goes.by (fun _ kz => XS.iload X924.here hx rfl (hb hby at_552) rfl (XS.iconst X924.here hx rfl (hb hby at_554) (XS.icmpYes X924.here hx rfl (pc0 := 555) (pc' := 573) rfl (hb hby at_555) rfl (feq (by decide : ¬ ((3 : Int32) = (2 : Int32)))).2 (by decide) (by decide) kz))) ?_
      show Goes p e below (T924.setTop (mkF m 573 #[lv p1, .second, lv p2, .second, lv p3, .second, lv p4, .second, iv p5, iv p6, rv b1, iv z1, iv z2, iv oi, iv oj, iv ch0, iv ch1, iv ch2, iv zB, iv 5, iv 3, rv b17, iv z1, rv b872, lv p1, .second, lv p2, .second, lv p4, .second, lv p4, .second, rv (own_o w oi), rv b885, iv ze, .unset] [])) _
      refine Goes.by (fun _ kz => XS.iload X924.here hx rfl (hb hby at_573) rfl (XS.iconst X924.here hx rfl (hb hby at_575) (XS.icmpNo X924.here hx rfl (hb hby at_576) rfl (teq (by decide : (3 : Int32) = (3 : Int32))).2 kz))) ?_
      have f954 := ((f905.keep Kq915).keep Kq924)
      have f955 := ((f906.keep Kq915).keep Kq924)
      have f956 := ((f907.keep Kq915).keep Kq924)
      have f957 := ((f908.keep Kq915 (ninS ne893_b1 nin0)).keep Kq924 (ninS ne885_b1 nin0))
      have f958 := ((f909.keep Kq915).keep Kq924)
      have f959 := ((f910.keep Kq915).keep Kq924)
      have f960 := ((f911.keep Kq915 (ninS ne893_b26 nin0)).keep Kq924 (ninS ne885_b26 nin0))
      have f961 := ((f912.keep Kq915 (ninS ne893_t44 nin0)).keep Kq924 (ninS ne885_t44 nin0))
      have f962 := ((f903.keep Kq915 (ninS ne893_b872 nin0)).keep Kq924 (ninS ne885_b872 nin0))
      have f963 := (f916.keep Kq924)
      have f964 := ((A893.keep Kq915).keep Kq924)
      have f965 := (gA915.keep Kq924 (ninS (Ne.symm net915_b885) nin0))
      obtain ⟨T953, h953, X953, e953, E953, A953, D953, -, st953⟩ := newO X924 hx hZ hown (wd hw 13 rfl) (wd hw 14 rfl) (wd hw 15 rfl) rfl (g := (mkF m 579 #[lv p1, .second, lv p2, .second, lv p3, .second, lv p4, .second, iv p5, iv p6, rv b1, iv z1, iv z2, iv oi, iv oj, iv ch0, iv ch1, iv ch2, iv zB, iv 5, iv 3, rv b17, iv z1, rv b872, lv p1, .second, lv p2, .second, lv p4, .second, lv p4, .second, rv (own_o w oi), rv b885, iv ze, .unset] [])) rfl (hb hby at_579) (by decide) (by decide)
      obtain ⟨b953, g953⟩ : ∃ z, z = T924.heap.size := ⟨_, rfl⟩
      rw [← g953] at A953 D953 st953
      have ne953__w_0_ : (w 0) ≠ b953 := Nat.ne_of_lt (Nat.lt_of_lt_of_le f954.lt (Nat.le_of_eq g953.symm))
      have ne953__w_1_ : (w 1) ≠ b953 := Nat.ne_of_lt (Nat.lt_of_lt_of_le f955.lt (Nat.le_of_eq g953.symm))
      have ne953__w_2_ : (w 2) ≠ b953 := Nat.ne_of_lt (Nat.lt_of_lt_of_le f956.lt (Nat.le_of_eq g953.symm))
      have ne953_b1 : b1 ≠ b953 := Nat.ne_of_lt (Nat.lt_of_lt_of_le f957.lt (Nat.le_of_eq g953.symm))
      have ne953_b17 : b17 ≠ b953 := Nat.ne_of_lt (Nat.lt_of_lt_of_le f958.lt (Nat.le_of_eq g953.symm))
      have ne953_b21 : b21 ≠ b953 := Nat.ne_of_lt (Nat.lt_of_lt_of_le f959.lt (Nat.le_of_eq g953.symm))
      have ne953_b26 : b26 ≠ b953 := Nat.ne_of_lt (Nat.lt_of_lt_of_le f960.lt (Nat.le_of_eq g953.symm))
      have ne953_t44 : t44 ≠ b953 := Nat.ne_of_lt (Nat.lt_of_lt_of_le f961.lt (Nat.le_of_eq g953.symm))
      have ne953_b872 : b872 ≠ b953 := Nat.ne_of_lt (Nat.lt_of_lt_of_le f962.lt (Nat.le_of_eq g953.symm))
      have ne953_b885 : b885 ≠ b953 := Nat.ne_of_lt (Nat.lt_of_lt_of_le f963.lt (Nat.le_of_eq g953.symm))
      have ne953_b893 : b893 ≠ b953 := Nat.ne_of_lt (Nat.lt_of_lt_of_le f964.lt (Nat.le_of_eq g953.symm))
      have ne953_t915 : t915 ≠ b953 := Nat.ne_of_lt (Nat.lt_of_lt_of_le f965.lt (Nat.le_of_eq g953.symm))
      have g_b953 : n0 ≤ b953 := Nat.le_trans Z924 (Nat.le_of_eq g953.symm)
      have sz_b953 : h0.size ≤ b953 := Nat.le_trans K924.1 (Nat.le_of_eq g953.symm)
      have F953_coder : Fld Z h953 b953 "java/lang/String" "coder" "B" (.int 0) := D953 (Or.inr (wd hw 40 rfl)) (ty := .byte) (by decide)
      have F953_value : Fld Z h953 b953 "java/lang/String" "value" "[B" .null := D953 (Or.inr (wd hw 42 rfl)) (ty := (.array .byte)) (by decide)
      have K953 : Keep h0 h953 [] := Keep.ext K924 E953
      have Z953 : n0 ≤ h953.size := Nat.le_trans Z924 E953.1
      refine Goes.by st953 ?_
      refine Goes.by (fun _ kz => XS.dup X953.here hx rfl (hb hby at_582) rfl rfl (XS.iconst X953.here hx rfl (hb hby at_583) kz)) ?_
      have f967 := (f954.ext E953)
      have f968 := (f955.ext E953)
      have f969 := (f956.ext E953)
      have f970 := (f957.ext E953)
      have f971 := (f958.ext E953)
      have f972 := (f959.ext E953)
      have f973 := (f960.ext E953)
      have f974 := (f961.ext E953)
      have f975 := (f962.ext E953)
      have f976 := (f963.ext E953)
      have f977 := (f964.ext E953)
      have f978 := (f965.ext E953)
      obtain ⟨T966, h966, k966, X966, e966, E966, A966, st966⟩ := newP X953 hx hZ (wd hw 16 rfl) e953 (g := (mkF m 584 #[lv p1, .second, lv p2, .second, lv p3, .second, lv p4, .second, iv p5, iv p6, rv b1, iv z1, iv z2, iv oi, iv oj, iv ch0, iv ch1, iv ch2, iv zB, iv 5, iv 3, rv b17, iv z1, rv b872, lv p1, .second, lv p2, .second, lv p4, .second, lv p4, .second, rv (own_o w oi), rv b885, iv ze, .unset] [(.int 1), (.ref b953), (.ref b953)])) rfl (hb hby at_584) rfl (by decide) (cap := 1) (by decide) (by decide) (by decide) (by decide)
      obtain ⟨b966, g966⟩ : ∃ z, z = h953.size := ⟨_, rfl⟩
      rw [← g966] at A966 st966
      have ne966__w_0_ : (w 0) ≠ b966 := Nat.ne_of_lt (Nat.lt_of_lt_of_le f967.lt (Nat.le_of_eq g966.symm))
      have ne966__w_1_ : (w 1) ≠ b966 := Nat.ne_of_lt (Nat.lt_of_lt_of_le f968.lt (Nat.le_of_eq g966.symm))
      have ne966__w_2_ : (w 2) ≠ b966 := Nat.ne_of_lt (Nat.lt_of_lt_of_le f969.lt (Nat.le_of_eq g966.symm))
      have ne966_b1 : b1 ≠ b966 := Nat.ne_of_lt (Nat.lt_of_lt_of_le f970.lt (Nat.le_of_eq g966.symm))
      have ne966_b17 : b17 ≠ b966 := Nat.ne_of_lt (Nat.lt_of_lt_of_le f971.lt (Nat.le_of_eq g966.symm))
      have ne966_b21 : b21 ≠ b966 := Nat.ne_of_lt (Nat.lt_of_lt_of_le f972.lt (Nat.le_of_eq g966.symm))
      have ne966_b26 : b26 ≠ b966 := Nat.ne_of_lt (Nat.lt_of_lt_of_le f973.lt (Nat.le_of_eq g966.symm))
      have ne966_t44 : t44 ≠ b966 := Nat.ne_of_lt (Nat.lt_of_lt_of_le f974.lt (Nat.le_of_eq g966.symm))
      have ne966_b872 : b872 ≠ b966 := Nat.ne_of_lt (Nat.lt_of_lt_of_le f975.lt (Nat.le_of_eq g966.symm))
      have ne966_b885 : b885 ≠ b966 := Nat.ne_of_lt (Nat.lt_of_lt_of_le f976.lt (Nat.le_of_eq g966.symm))
      have ne966_b893 : b893 ≠ b966 := Nat.ne_of_lt (Nat.lt_of_lt_of_le f977.lt (Nat.le_of_eq g966.symm))
      have ne966_t915 : t915 ≠ b966 := Nat.ne_of_lt (Nat.lt_of_lt_of_le f978.lt (Nat.le_of_eq g966.symm))
      have ne966_b953 : b953 ≠ b966 := Nat.ne_of_lt (Nat.lt_of_lt_of_le A953.lt (Nat.le_of_eq g966.symm))
      have g_b966 : n0 ≤ b966 := Nat.le_trans Z953 (Nat.le_of_eq g966.symm)
      have sz_b966 : h0.size ≤ b966 := Nat.le_trans K953.1 (Nat.le_of_eq g966.symm)
      have V966 : Arv Z h966 b966 k966 .char (1 : Int32) [(.int 0)] (.int 0) := (Arv.new A966 (by decide)).pad (pad_rep [] (.int 0) 1)
      have K966 : Keep h0 h966 [] := Keep.ext K953 E966
      have Z966 : n0 ≤ h966.size := Nat.le_trans Z953 E966.1
      refine Goes.by st966 ?_
      refine Goes.by (fun _ kz => XS.dup X966.here hx rfl (hb hby at_586) rfl rfl (XS.iconst X966.here hx rfl (hb hby at_587) (XS.iload X966.here hx rfl (hb hby at_588) rfl kz))) ?_
      obtain ⟨cl979, Ar979, Cq979, Sz979, Nn979, Hh979, Gg979⟩ := id V966
      have hin979 : ¬ ((0 : Int32) < 0 ∨ cl979.slots.size ≤ ((0 : Int32)).toNatClampNeg) := inb_of Sz979 ⟨by decide, by decide⟩
      obtain ⟨T979, h979, X979, e979, W979, st979⟩ := stC X966 hx hZ e966 Ar979 (j := (0 : Int32)) hin979 (g := (mkF m 590 #[lv p1, .second, lv p2, .second, lv p3, .second, lv p4, .second, iv p5, iv p6, rv b1, iv z1, iv z2, iv oi, iv oj, iv ch0, iv ch1, iv ch2, iv zB, iv 5, iv 3, rv b17, iv z1, rv b872, lv p1, .second, lv p2, .second, lv p4, .second, lv p4, .second, rv (own_o w oi), rv b885, iv ze, .unset] [(.int ch0), (.int 0), (.ref b966), (.ref b966), (.ref b953), (.ref b953)])) rfl rfl (hb hby at_590)
      have V979 : Arv Z h979 b966 k966 .char (1 : Int32) [(.int (nar .char ch0))] (.int 0) := Arv.set Ar979 Cq979 Sz979 Nn979 Hh979 Gg979 (fits_nar_char _) W979 0 rfl (Nat.le_of_ble_eq_true rfl)
      rw [hn_ch0] at V979
      have K979 : Keep h0 h979 [] := Keep.wr K966 W979 (Or.inr sz_b966)
      have Z979 : n0 ≤ h979.size := Nat.le_trans Z966 (Keep.of_wr W979).1
      have N979 := Fr.snoc X979 N924 g_b966
      refine Goes.by st979 ?_
      show Goes p e below (T979.setTop (mkF m 591 #[lv p1, .second, lv p2, .second, lv p3, .second, lv p4, .second, iv p5, iv p6, rv b1, iv z1, iv z2, iv oi, iv oj, iv ch0, iv ch1, iv ch2, iv zB, iv 5, iv 3, rv b17, iv z1, rv b872, lv p1, .second, lv p2, .second, lv p4, .second, lv p4, .second, rv (own_o w oi), rv b885, iv ze, .unset] [(.ref b966), (.ref b953), (.ref b953)])) _
      have f980 := (Exa.wr W979 (A953.ext E966))
      have f981 := (Fld.other W979 (F953_value.ext E966) (Or.inl ne966_b953))
      have f982 := (Fld.other W979 (F953_coder.ext E966) (Or.inl ne966_b953))
      have f983 := (Sta.wr W979 (((own_staKeep (own_staKeep f904 Kq915 (allS (own_nsE A893) all0)) Kq924 (allS (own_nsE f916) all0)).ext E953).ext E966))
      have f984 := (Exa.wr W979 (f967.ext E966))
      have f985 := (Exa.wr W979 (f968.ext E966))
      have f986 := (Exa.wr W979 (f969.ext E966))
      have f987 := ((f970.ext E966).other W979 ne966_b1)
      have f988 := (Exa.wr W979 (f971.ext E966))
      have f989 := (Exa.wr W979 (f972.ext E966))
      have f990 := ((f973.ext E966).other W979 ne966_b26)
      have f991 := ((f974.ext E966).other W979 ne966_t44)
      have f992 := ((f975.ext E966).other W979 ne966_b872)
      have f993 := (Exa.wr W979 (f976.ext E966))
      have f994 := (Exa.wr W979 (f977.ext E966))
      have f995 := ((f978.ext E966).other W979 ne966_t915)
      have hp996 : ∀ c ∈ ([ch0] : List Int32), ¬ c < 0 ∧ ¬ (255 : Int32) < c := by
        intro c hc; simp only [List.mem_cons, List.not_mem_nil, or_false] at hc
        rw [hc]; exact hb_ch0
      have hcd996 : StrChars.Road.CodA ([ch0] : List Int32) 0 (1 : Int32) ((([ch0] : List Int32).map (fun c => c.toInt8.toInt32)).map Value.int) := StrChars.Road.codOf (n := 1) rfl (fun c hc => (hp996 c hc).2)
      have hbd996 := own_up _ hp996
      obtain ⟨_, _, ⟨T997, L997, k997, n997⟩, -, X997, ⟨Lc997, hQ997, l997, y997, z997⟩, st997⟩ := X979.specialBack hx (y := (⟨"java/lang/String", "<init>", "([C)V"⟩ : MethodName)) rfl hown (mvT hZ (wd hw 17 rfl)) (mvT hZ (wd hw 18 rfl)) (mvT hZ (wd hw 19 rfl)) (by decide) (StrChars.Road.backV (W := 1) hZ hws (kI := 4) (wd hw 14 rfl) (cs := ([ch0] : List Int32)) (bs := (([ch0] : List Int32).map (fun c => c.toInt8.toInt32))) (n := 1) g_b953 Z979 f980 f981 f982 V979 f983 hzc rfl rfl (by decide) (by decide) hp996 rfl (by decide) (by decide)) (g := (mkF m 591 #[lv p1, .second, lv p2, .second, lv p3, .second, lv p4, .second, iv p5, iv p6, rv b1, iv z1, iv z2, iv oi, iv oj, iv ch0, iv ch1, iv ch2, iv zB, iv 5, iv 3, rv b17, iv z1, rv b872, lv p1, .second, lv p2, .second, lv p4, .second, lv p4, .second, rv (own_o w oi), rv b885, iv ze, .unset] [(.ref b966), (.ref b953), (.ref b953)])) rfl (by rw [hml]; rfl) (Steps.refl _) (a := b953) (argsL := [(.ref b966)]) (rest := [(.ref b953)]) (lenOf pd0 rfl) rfl (by show 2 * 0 + _ ≤ _; exact Nat.le_of_eq rfl) (hb hby at_591) (fun _ _ => ⟨rfl, e979, (by decide : 11 + 1 ≤ _), (by decide : 38 + 1 ≤ _)⟩)
      dsimp only [Pt.U, Pt.locs, Pt.cells, Pt.slots] at X997 l997 y997 z997 st997 hQ997
      subst l997 y997 z997
      obtain ⟨rfl, Nq997, Kq997, gE997, gC997, t997, kb997, u1_997, u2_997, u3_997, gV997, gA997⟩ := hQ997
      have K997 : Keep h0 T997.heap [] := Keep.trans K979 Kq997 (allS (Or.inr sz_b953) all0)
      have Z997 : n0 ≤ T997.heap.size := Nat.le_trans Z979 Kq997.1
      have net997__w_0_ : (w 0) ≠ t997 := Nat.ne_of_lt (Nat.lt_of_lt_of_le f984.lt u2_997)
      have net997__w_1_ : (w 1) ≠ t997 := Nat.ne_of_lt (Nat.lt_of_lt_of_le f985.lt u2_997)
      have net997__w_2_ : (w 2) ≠ t997 := Nat.ne_of_lt (Nat.lt_of_lt_of_le f986.lt u2_997)
      have net997_b1 : b1 ≠ t997 := Nat.ne_of_lt (Nat.lt_of_lt_of_le f987.lt u2_997)
      have net997_b17 : b17 ≠ t997 := Nat.ne_of_lt (Nat.lt_of_lt_of_le f988.lt u2_997)
      have net997_b21 : b21 ≠ t997 := Nat.ne_of_lt (Nat.lt_of_lt_of_le f989.lt u2_997)
      have net997_b26 : b26 ≠ t997 := Nat.ne_of_lt (Nat.lt_of_lt_of_le f990.lt u2_997)
      have net997_t44 : t44 ≠ t997 := Nat.ne_of_lt (Nat.lt_of_lt_of_le f991.lt u2_997)
      have net997_b872 : b872 ≠ t997 := Nat.ne_of_lt (Nat.lt_of_lt_of_le f992.lt u2_997)
      have net997_b885 : b885 ≠ t997 := Nat.ne_of_lt (Nat.lt_of_lt_of_le f993.lt u2_997)
      have net997_b893 : b893 ≠ t997 := Nat.ne_of_lt (Nat.lt_of_lt_of_le f994.lt u2_997)
      have net997_t915 : t915 ≠ t997 := Nat.ne_of_lt (Nat.lt_of_lt_of_le f995.lt u2_997)
      have net997_b953 : b953 ≠ t997 := Nat.ne_of_lt (Nat.lt_of_lt_of_le f980.lt u2_997)
      have net997_b966 : b966 ≠ t997 := Nat.ne_of_lt (Nat.lt_of_lt_of_le V979.lt u2_997)
      have g_t997 : n0 ≤ t997 := Nat.le_trans Z979 u2_997
      have sz_t997 : h0.size ≤ t997 := Nat.le_trans K979.1 u2_997
      have N997 := Fr.app N979 Nq997
      refine Goes.tr st997 ?_
      refine Goes.by (fun _ kz => XS.astore X997.here hx rfl (hb hby at_594) rfl rfl rfl (XS.aload X997.here hx rfl (hb hby at_596) rfl rfl (XS.aload X997.here hx rfl (hb hby at_598) rfl rfl kz))) ?_
      have f998 := (f980.keep Kq997)
      have f1000 := (f988.keep Kq997)
      obtain ⟨cq999, kq999, q999a, q999b, q999c⟩ := isOf hZ rfl f1000
      obtain ⟨_, _, ⟨T999, L999, k999, n999⟩, -, X999, ⟨Lc999, hQ999, l999, y999, z999⟩, st999⟩ := X997.virtualBack hx (y := (⟨"com/example/killdeer/killdeer/GadgetView", "equals", "(Ljava/lang/Object;)Z"⟩ : MethodName)) (z := (⟨"com/example/killdeer/killdeer/GadgetView", "equals", "(Ljava/lang/Object;)Z"⟩ : MethodName)) hown (mvT hZ (wd hw 61 rfl)) (mvT hZ (wd hw 62 rfl)) (notFace_of_selects (args := #[]) (mvT hZ (wd hw 64 rfl))) (mvT hZ (wd hw 64 rfl)) (mvT hZ (wd hw 63 rfl)) (by decide) (backOf (W := 0) (r8_str l Z a0 hw [] T997.heap n0 Z997 b17 b953 f998 ne953_b17) hZ (wd hw 65 rfl) (wd hw 12 rfl) (by decide) (by decide)) q999a q999c (g := (mkF m 600 #[lv p1, .second, lv p2, .second, lv p3, .second, lv p4, .second, iv p5, iv p6, rv b1, iv z1, iv z2, iv oi, iv oj, iv ch0, iv ch1, iv ch2, iv zB, iv 5, iv 3, rv b17, iv z1, rv b872, lv p1, .second, lv p2, .second, lv p4, .second, lv p4, .second, rv (own_o w oi), rv b885, iv ze, rv b953] [(.ref b953), (.ref b17)])) rfl (by rw [hml]; rfl) (Steps.refl _) (argsL := [(.ref b953)]) (rest := []) (lenOf pd2 rfl) rfl (by show 2 * 0 + _ ≤ _; exact Nat.le_of_eq rfl) (hb hby at_600) (fun _ _ => ⟨rfl, rfl, (by decide : 12 + 0 ≤ _), (by decide : 39 + 0 ≤ _)⟩)
      dsimp only [Pt.U, Pt.locs, Pt.cells, Pt.slots] at X999 l999 y999 z999 st999 hQ999
      subst l999 y999 z999
      obtain ⟨rfl, Nq999, e999⟩ := hQ999
      have N999 := Fr.app N997 Nq999
      refine Goes.tr st999 ?_
      refine Goes.by (fun _ kz => XS.ifNo X999.here hx rfl (hb hby at_603) rfl ((if0 _ _).trans (teq (by decide : (0 : Int32) = (0 : Int32))).2) (XS.iconst X999.here hx rfl (hb hby at_606) (XS.goto X999.here hx rfl (pc0 := 607) (pc' := 611) rfl (hb hby at_607) (by decide) (by decide) kz))) ?_
      show Goes p e below (T999.setTop (mkF m 611 #[lv p1, .second, lv p2, .second, lv p3, .second, lv p4, .second, iv p5, iv p6, rv b1, iv z1, iv z2, iv oi, iv oj, iv ch0, iv ch1, iv ch2, iv zB, iv 5, iv 3, rv b17, iv z1, rv b872, lv p1, .second, lv p2, .second, lv p4, .second, lv p4, .second, rv (own_o w oi), rv b885, iv ze, rv b953] [(.int 1)])) _
      obtain ⟨fs, hr, hrun, hended, hW, hsame⟩ := X999.leave (v := some (.int 1)) (fun h => by rw [Bd.returns] at h; cases h)
      exact ⟨_, _, retN X999 hx (t := .boolean) Bd.returns (by simp) (hb hby at_611) hr, hrun, hended, _, _, rfl, ⟨rfl, N999⟩, ⟨_, rfl⟩, hW, hsame.mono (by decide) (by decide)⟩
  · show Goes p e below (T81.setTop (mkF m 186 #[lv p1, .second, lv p2, .second, lv p3, .second, lv p4, .second, iv p5, iv p6, rv b1, iv z1, iv z2, iv oi, iv oj, iv ch0, iv ch1, iv ch2, iv zB, iv 6, iv (((p6.toUInt32 >>> ((4 : Int32) &&& 31).toUInt32).toInt32) &&& (3 : Int32)), rv b17, .unset, .unset, .unset, .unset, .unset, .unset, .unset, .unset, .unset, .unset, .unset, .unset, .unset, .unset] [])) _
    refine Goes.by (fun _ kz => XS.iload X81.here hx rfl (hb hby at_186) rfl (XS.iconst X81.here hx rfl (hb hby at_188) (XS.icmpYes X81.here hx rfl (pc0 := 189) (pc' := 197) rfl (hb hby at_189) rfl (feq (by decide : ¬ ((6 : Int32) = (1 : Int32)))).2 (by decide) (by decide) kz))) ?_
    show Goes p e below (T81.setTop (mkF m 197 #[lv p1, .second, lv p2, .second, lv p3, .second, lv p4, .second, iv p5, iv p6, rv b1, iv z1, iv z2, iv oi, iv oj, iv ch0, iv ch1, iv ch2, iv zB, iv 6, iv (((p6.toUInt32 >>> ((4 : Int32) &&& 31).toUInt32).toInt32) &&& (3 : Int32)), rv b17, .unset, .unset, .unset, .unset, .unset, .unset, .unset, .unset, .unset, .unset, .unset, .unset, .unset, .unset] [])) _
    refine Goes.by (fun _ kz => XS.iload X81.here hx rfl (hb hby at_197) rfl (XS.istore X81.here hx rfl (hb hby at_199) rfl rfl (XS.iload X81.here hx rfl (hb hby at_201) rfl kz))) ?_
    show Goes p e below (T81.setTop (mkF m 203 #[lv p1, .second, lv p2, .second, lv p3, .second, lv p4, .second, iv p5, iv p6, rv b1, iv z1, iv z2, iv oi, iv oj, iv ch0, iv ch1, iv ch2, iv zB, iv 6, iv (((p6.toUInt32 >>> ((4 : Int32) &&& 31).toUInt32).toInt32) &&& (3 : Int32)), rv b17, iv z1, .unset, .unset, .unset, .unset, .unset, .unset, .unset, .unset, .unset, .unset, .unset, .unset, .unset] [(.int 6)])) _
    refine Goes.by (fun _ kz => XS.iconst X81.here hx rfl (hb hby at_203) (XS.icmpYes X81.here hx rfl (pc0 := 204) (pc' := 243) rfl (hb hby at_204) rfl (feq (by decide : ¬ ((6 : Int32) = (2 : Int32)))).2 (by decide) (by decide) (XS.iconst X81.here hx rfl (hb hby at_243) kz))) ?_
    have f1002 := ((f38.keep Kq44).keep Kq81)
    have f1003 := ((f39.keep Kq44).keep Kq81)
    have f1004 := ((f40.keep Kq44).keep Kq81)
    have f1005 := (f46.keep Kq81 (ninS ne17_b1 nin0))
    have f1006 := (f73.keep Kq81)
    have f1007 := ((f34.keep Kq44).keep Kq81)
    have f1008 := ((V33.keep Kq44 (ninS (Ne.symm ne26_b21) nin0)).keep Kq81 (ninS (Ne.symm ne26_b17) nin0))
    have f1009 := (gA44.keep Kq81 (ninS (Ne.symm net44_b17) nin0))
    obtain ⟨T1001, h1001, k1001, X1001, e1001, E1001, A1001, st1001⟩ := newP X81 hx hZ (wd hw 16 rfl) rfl (g := (mkF m 244 #[lv p1, .second, lv p2, .second, lv p3, .second, lv p4, .second, iv p5, iv p6, rv b1, iv z1, iv z2, iv oi, iv oj, iv ch0, iv ch1, iv ch2, iv zB, iv 6, iv (((p6.toUInt32 >>> ((4 : Int32) &&& 31).toUInt32).toInt32) &&& (3 : Int32)), rv b17, iv z1, .unset, .unset, .unset, .unset, .unset, .unset, .unset, .unset, .unset, .unset, .unset, .unset, .unset] [(.int 2)])) rfl (hb hby at_244) rfl (by decide) (cap := 2) (by decide) (by decide) (by decide) (by decide)
    obtain ⟨b1001, g1001⟩ : ∃ z, z = T81.heap.size := ⟨_, rfl⟩
    rw [← g1001] at A1001 st1001
    have ne1001__w_0_ : (w 0) ≠ b1001 := Nat.ne_of_lt (Nat.lt_of_lt_of_le f1002.lt (Nat.le_of_eq g1001.symm))
    have ne1001__w_1_ : (w 1) ≠ b1001 := Nat.ne_of_lt (Nat.lt_of_lt_of_le f1003.lt (Nat.le_of_eq g1001.symm))
    have ne1001__w_2_ : (w 2) ≠ b1001 := Nat.ne_of_lt (Nat.lt_of_lt_of_le f1004.lt (Nat.le_of_eq g1001.symm))
    have ne1001_b1 : b1 ≠ b1001 := Nat.ne_of_lt (Nat.lt_of_lt_of_le f1005.lt (Nat.le_of_eq g1001.symm))
    have ne1001_b17 : b17 ≠ b1001 := Nat.ne_of_lt (Nat.lt_of_lt_of_le f1006.lt (Nat.le_of_eq g1001.symm))
    have ne1001_b21 : b21 ≠ b1001 := Nat.ne_of_lt (Nat.lt_of_lt_of_le f1007.lt (Nat.le_of_eq g1001.symm))
    have ne1001_b26 : b26 ≠ b1001 := Nat.ne_of_lt (Nat.lt_of_lt_of_le f1008.lt (Nat.le_of_eq g1001.symm))
    have ne1001_t44 : t44 ≠ b1001 := Nat.ne_of_lt (Nat.lt_of_lt_of_le f1009.lt (Nat.le_of_eq g1001.symm))
    have g_b1001 : n0 ≤ b1001 := Nat.le_trans Z81 (Nat.le_of_eq g1001.symm)
    have sz_b1001 : h0.size ≤ b1001 := Nat.le_trans K81.1 (Nat.le_of_eq g1001.symm)
    have V1001 : Arv Z h1001 b1001 k1001 .char (2 : Int32) [(.int 0), (.int 0)] (.int 0) := (Arv.new A1001 (by decide)).pad (pad_rep [] (.int 0) 2)
    have K1001 : Keep h0 h1001 [] := Keep.ext K81 E1001
    have Z1001 : n0 ≤ h1001.size := Nat.le_trans Z81 E1001.1
    refine Goes.by st1001 ?_
    refine Goes.by (fun _ kz => XS.dup X1001.here hx rfl (hb hby at_246) rfl rfl (XS.iconst X1001.here hx rfl (hb hby at_247) (XS.iload X1001.here hx rfl (hb hby at_248) rfl kz))) ?_
    obtain ⟨cl1010, Ar1010, Cq1010, Sz1010, Nn1010, Hh1010, Gg1010⟩ := id V1001
    have hin1010 : ¬ ((0 : Int32) < 0 ∨ cl1010.slots.size ≤ ((0 : Int32)).toNatClampNeg) := inb_of Sz1010 ⟨by decide, by decide⟩
    obtain ⟨T1010, h1010, X1010, e1010, W1010, st1010⟩ := stC X1001 hx hZ e1001 Ar1010 (j := (0 : Int32)) hin1010 (g := (mkF m 250 #[lv p1, .second, lv p2, .second, lv p3, .second, lv p4, .second, iv p5, iv p6, rv b1, iv z1, iv z2, iv oi, iv oj, iv ch0, iv ch1, iv ch2, iv zB, iv 6, iv (((p6.toUInt32 >>> ((4 : Int32) &&& 31).toUInt32).toInt32) &&& (3 : Int32)), rv b17, iv z1, .unset, .unset, .unset, .unset, .unset, .unset, .unset, .unset, .unset, .unset, .unset, .unset, .unset] [(.int ch0), (.int 0), (.ref b1001), (.ref b1001)])) rfl rfl (hb hby at_250)
    have V1010 : Arv Z h1010 b1001 k1001 .char (2 : Int32) [(.int (nar .char ch0)), (.int 0)] (.int 0) := Arv.set Ar1010 Cq1010 Sz1010 Nn1010 Hh1010 Gg1010 (fits_nar_char _) W1010 0 rfl (Nat.le_of_ble_eq_true rfl)
    rw [hn_ch0] at V1010
    have K1010 : Keep h0 h1010 [] := Keep.wr K1001 W1010 (Or.inr sz_b1001)
    have Z1010 : n0 ≤ h1010.size := Nat.le_trans Z1001 (Keep.of_wr W1010).1
    have N1010 := Fr.snoc X1010 N81 g_b1001
    refine Goes.by st1010 ?_
    refine Goes.by (fun _ kz => XS.dup X1010.here hx rfl (hb hby at_251) rfl rfl (XS.iconst X1010.here hx rfl (hb hby at_252) (XS.iload X1010.here hx rfl (hb hby at_253) rfl kz))) ?_
    obtain ⟨cl1011, Ar1011, Cq1011, Sz1011, Nn1011, Hh1011, Gg1011⟩ := id V1010
    have hin1011 : ¬ ((1 : Int32) < 0 ∨ cl1011.slots.size ≤ ((1 : Int32)).toNatClampNeg) := inb_of Sz1011 ⟨by decide, by decide⟩
    obtain ⟨T1011, h1011, X1011, e1011, W1011, st1011⟩ := stC X1010 hx hZ e1010 Ar1011 (j := (1 : Int32)) hin1011 (g := (mkF m 255 #[lv p1, .second, lv p2, .second, lv p3, .second, lv p4, .second, iv p5, iv p6, rv b1, iv z1, iv z2, iv oi, iv oj, iv ch0, iv ch1, iv ch2, iv zB, iv 6, iv (((p6.toUInt32 >>> ((4 : Int32) &&& 31).toUInt32).toInt32) &&& (3 : Int32)), rv b17, iv z1, .unset, .unset, .unset, .unset, .unset, .unset, .unset, .unset, .unset, .unset, .unset, .unset, .unset] [(.int ch1), (.int 1), (.ref b1001), (.ref b1001)])) rfl rfl (hb hby at_255)
    have V1011 : Arv Z h1011 b1001 k1001 .char (2 : Int32) [(.int ch0), (.int (nar .char ch1))] (.int 0) := Arv.set Ar1011 Cq1011 Sz1011 Nn1011 Hh1011 Gg1011 (fits_nar_char _) W1011 1 rfl (Nat.le_of_ble_eq_true rfl)
    rw [hn_ch1] at V1011
    have K1011 : Keep h0 h1011 [] := Keep.wr K1010 W1011 (Or.inr sz_b1001)
    have Z1011 : n0 ≤ h1011.size := Nat.le_trans Z1010 (Keep.of_wr W1011).1
    have N1011 := Fr.snoc X1011 N1010 g_b1001
    refine Goes.by st1011 ?_
    refine Goes.by (fun _ kz => XS.astore X1011.here hx rfl (hb hby at_256) rfl rfl rfl (XS.iload X1011.here hx rfl (hb hby at_258) rfl (XS.iconst X1011.here hx rfl (hb hby at_260) kz))) ?_
    show Goes p e below (T1011.setTop (mkF m 261 #[lv p1, .second, lv p2, .second, lv p3, .second, lv p4, .second, iv p5, iv p6, rv b1, iv z1, iv z2, iv oi, iv oj, iv ch0, iv ch1, iv ch2, iv zB, iv 6, iv (((p6.toUInt32 >>> ((4 : Int32) &&& 31).toUInt32).toInt32) &&& (3 : Int32)), rv b17, iv z1, rv b1001, .unset, .unset, .unset, .unset, .unset, .unset, .unset, .unset, .unset, .unset, .unset, .unset] [(.int 3), (.int 6)])) _
    refine Goes.by (fun _ kz => XS.icmpYes X1011.here hx rfl (pc0 := 261) (pc' := 269) rfl (hb hby at_261) rfl (feq (by decide : ¬ ((6 : Int32) = (3 : Int32)))).2 (by decide) (by decide) (XS.lloadN X1011.here hx rfl (hb hby at_269) rfl (XS.lstore X1011.here hx rfl (hb hby at_270) rfl rfl kz))) ?_
    show Goes p e below (T1011.setTop (mkF m 272 #[lv p1, .second, lv p2, .second, lv p3, .second, lv p4, .second, iv p5, iv p6, rv b1, iv z1, iv z2, iv oi, iv oj, iv ch0, iv ch1, iv ch2, iv zB, iv 6, iv (((p6.toUInt32 >>> ((4 : Int32) &&& 31).toUInt32).toInt32) &&& (3 : Int32)), rv b17, iv z1, rv b1001, lv p1, .second, .unset, .unset, .unset, .unset, .unset, .unset, .unset, .unset, .unset, .unset] [])) _
    refine Goes.by (fun _ kz => XS.iload X1011.here hx rfl (hb hby at_272) rfl (XS.iconst X1011.here hx rfl (hb hby at_274) (XS.icmpYes X1011.here hx rfl (pc0 := 275) (pc' := 283) rfl (hb hby at_275) rfl (feq (by decide : ¬ ((6 : Int32) = (4 : Int32)))).2 (by decide) (by decide) kz))) ?_
    show Goes p e below (T1011.setTop (mkF m 283 #[lv p1, .second, lv p2, .second, lv p3, .second, lv p4, .second, iv p5, iv p6, rv b1, iv z1, iv z2, iv oi, iv oj, iv ch0, iv ch1, iv ch2, iv zB, iv 6, iv (((p6.toUInt32 >>> ((4 : Int32) &&& 31).toUInt32).toInt32) &&& (3 : Int32)), rv b17, iv z1, rv b1001, lv p1, .second, .unset, .unset, .unset, .unset, .unset, .unset, .unset, .unset, .unset, .unset] [])) _
    refine Goes.by (fun _ kz => XS.lloadN X1011.here hx rfl (hb hby at_283) rfl (XS.lstore X1011.here hx rfl (hb hby at_284) rfl rfl (XS.iload X1011.here hx rfl (hb hby at_286) rfl kz))) ?_
    show Goes p e below (T1011.setTop (mkF m 288 #[lv p1, .second, lv p2, .second, lv p3, .second, lv p4, .second, iv p5, iv p6, rv b1, iv z1, iv z2, iv oi, iv oj, iv ch0, iv ch1, iv ch2, iv zB, iv 6, iv (((p6.toUInt32 >>> ((4 : Int32) &&& 31).toUInt32).toInt32) &&& (3 : Int32)), rv b17, iv z1, rv b1001, lv p1, .second, lv p2, .second, .unset, .unset, .unset, .unset, .unset, .unset, .unset, .unset] [(.int 6)])) _
    refine Goes.by (fun _ kz => XS.iconst X1011.here hx rfl (hb hby at_288) (XS.icmpYes X1011.here hx rfl (pc0 := 289) (pc' := 297) rfl (hb hby at_289) rfl (feq (by decide : ¬ ((6 : Int32) = (5 : Int32)))).2 (by decide) (by decide) (XS.lload X1011.here hx rfl (hb hby at_297) rfl kz))) ?_
    show Goes p e below (T1011.setTop (mkF m 299 #[lv p1, .second, lv p2, .second, lv p3, .second, lv p4, .second, iv p5, iv p6, rv b1, iv z1, iv z2, iv oi, iv oj, iv ch0, iv ch1, iv ch2, iv zB, iv 6, iv (((p6.toUInt32 >>> ((4 : Int32) &&& 31).toUInt32).toInt32) &&& (3 : Int32)), rv b17, iv z1, rv b1001, lv p1, .second, lv p2, .second, .unset, .unset, .unset, .unset, .unset, .unset, .unset, .unset] [(.long p3)])) _
    refine Goes.by (fun _ kz => XS.lstore X1011.here hx rfl (hb hby at_299) rfl rfl (XS.iload X1011.here hx rfl (hb hby at_301) rfl (XS.bipush X1011.here hx rfl (hb hby at_303) kz))) ?_
    show Goes p e below (T1011.setTop (mkF m 305 #[lv p1, .second, lv p2, .second, lv p3, .second, lv p4, .second, iv p5, iv p6, rv b1, iv z1, iv z2, iv oi, iv oj, iv ch0, iv ch1, iv ch2, iv zB, iv 6, iv (((p6.toUInt32 >>> ((4 : Int32) &&& 31).toUInt32).toInt32) &&& (3 : Int32)), rv b17, iv z1, rv b1001, lv p1, .second, lv p2, .second, lv p3, .second, .unset, .unset, .unset, .unset, .unset, .unset] [(.int 6), (.int 6)])) _
    refine Goes.by (fun _ kz => XS.icmpNo X1011.here hx rfl (hb hby at_305) rfl (teq (by decide : (6 : Int32) = (6 : Int32))).2 (XS.lloadN X1011.here hx rfl (hb hby at_308) rfl (XS.goto X1011.here hx rfl (pc0 := 309) (pc' := 314) rfl (hb hby at_309) (by decide) (by decide) kz))) ?_
    show Goes p e below (T1011.setTop (mkF m 314 #[lv p1, .second, lv p2, .second, lv p3, .second, lv p4, .second, iv p5, iv p6, rv b1, iv z1, iv z2, iv oi, iv oj, iv ch0, iv ch1, iv ch2, iv zB, iv 6, iv (((p6.toUInt32 >>> ((4 : Int32) &&& 31).toUInt32).toInt32) &&& (3 : Int32)), rv b17, iv z1, rv b1001, lv p1, .second, lv p2, .second, lv p3, .second, .unset, .unset, .unset, .unset, .unset, .unset] [(.long p1)])) _
    refine Goes.by (fun _ kz => XS.lstore X1011.here hx rfl (hb hby at_314) rfl rfl (XS.iload X1011.here hx rfl (hb hby at_316) rfl (XS.bipush X1011.here hx rfl (hb hby at_318) kz))) ?_
    show Goes p e below (T1011.setTop (mkF m 320 #[lv p1, .second, lv p2, .second, lv p3, .second, lv p4, .second, iv p5, iv p6, rv b1, iv z1, iv z2, iv oi, iv oj, iv ch0, iv ch1, iv ch2, iv zB, iv 6, iv (((p6.toUInt32 >>> ((4 : Int32) &&& 31).toUInt32).toInt32) &&& (3 : Int32)), rv b17, iv z1, rv b1001, lv p1, .second, lv p2, .second, lv p3, .second, lv p1, .second, .unset, .unset, .unset, .unset] [(.int 7), (.int 6)])) _
    refine Goes.by (fun _ kz => XS.icmpYes X1011.here hx rfl (pc0 := 320) (pc' := 331) rfl (hb hby at_320) rfl (feq (by decide : ¬ ((6 : Int32) = (7 : Int32)))).2 (by decide) (by decide) (XS.aload X1011.here hx rfl (hb hby at_331) rfl rfl (XS.iload X1011.here hx rfl (hb hby at_333) rfl kz))) ?_
    show Goes p e below (T1011.setTop (mkF m 335 #[lv p1, .second, lv p2, .second, lv p3, .second, lv p4, .second, iv p5, iv p6, rv b1, iv z1, iv z2, iv oi, iv oj, iv ch0, iv ch1, iv ch2, iv zB, iv 6, iv (((p6.toUInt32 >>> ((4 : Int32) &&& 31).toUInt32).toInt32) &&& (3 : Int32)), rv b17, iv z1, rv b1001, lv p1, .second, lv p2, .second, lv p3, .second, lv p1, .second, .unset, .unset, .unset, .unset] [(.int oi), (.ref b1)])) _
    have f1013 := (((f1005.ext E1001).other W1010 ne1001_b1).other W1011 ne1001_b1)
    obtain ⟨cl1012, Ar1012, Cq1012, Sz1012, Nn1012, Hh1012, Gg1012⟩ := id f1013
    have hin1012 : ¬ (oi < 0 ∨ cl1012.slots.size ≤ (oi).toNatClampNeg) := inb_of Sz1012 (own_i3 h_oi)
    have hat1012 : cl1012.slots[(oi).toNatClampNeg]? = some (.ref (own_o w oi)) := Has.at Hh1012 hin1012 (by rcases h_oi with h | h | h <;> rw [h] <;> rfl)
    refine Goes.by (fun _ kz => X1011.aaload hx (j := oi) (v := (.ref (own_o w oi))) (by rw [e1011]; exact Ar1012.1) (State.isArrayOf_alike hZ.alike Ar1012.2.1) rfl Ar1012.2.2 hin1012 hat1012 (g := (mkF m 335 #[lv p1, .second, lv p2, .second, lv p3, .second, lv p4, .second, iv p5, iv p6, rv b1, iv z1, iv z2, iv oi, iv oj, iv ch0, iv ch1, iv ch2, iv zB, iv 6, iv (((p6.toUInt32 >>> ((4 : Int32) &&& 31).toUInt32).toInt32) &&& (3 : Int32)), rv b17, iv z1, rv b1001, lv p1, .second, lv p2, .second, lv p3, .second, lv p1, .second, .unset, .unset, .unset, .unset] [(.int oi), (.ref b1)])) rfl rfl (hb hby at_335) _ (XS.astore X1011.here hx rfl (hb hby at_336) rfl rfl rfl kz)) ?_
    have f1015 := (Exa.wr W1011 (Exa.wr W1010 (f1002.ext E1001)))
    have f1016 := (Exa.wr W1011 (Exa.wr W1010 (f1003.ext E1001)))
    have f1017 := (Exa.wr W1011 (Exa.wr W1010 (f1004.ext E1001)))
    have f1018 := (Exa.wr W1011 (Exa.wr W1010 (f1006.ext E1001)))
    have f1019 := (Exa.wr W1011 (Exa.wr W1010 (f1007.ext E1001)))
    have f1020 := (((f1008.ext E1001).other W1010 ne1001_b26).other W1011 ne1001_b26)
    have f1021 := (((f1009.ext E1001).other W1010 ne1001_t44).other W1011 ne1001_t44)
    obtain ⟨T1014, h1014, X1014, e1014, E1014, A1014, D1014, -, st1014⟩ := newO X1011 hx hZ hown (wd hw 10 rfl) (wd hw 11 rfl) (wd hw 12 rfl) e1011 (g := (mkF m 338 #[lv p1, .second, lv p2, .second, lv p3, .second, lv p4, .second, iv p5, iv p6, rv b1, iv z1, iv z2, iv oi, iv oj, iv ch0, iv ch1, iv ch2, iv zB, iv 6, iv (((p6.toUInt32 >>> ((4 : Int32) &&& 31).toUInt32).toInt32) &&& (3 : Int32)), rv b17, iv z1, rv b1001, lv p1, .second, lv p2, .second, lv p3, .second, lv p1, .second, rv (own_o w oi), .unset, .unset, .unset] [])) rfl (hb hby at_338) (by decide) (by decide)
    obtain ⟨b1014, g1014⟩ : ∃ z, z = h1011.size := ⟨_, rfl⟩
    rw [← g1014] at A1014 D1014 st1014
    have ne1014__w_0_ : (w 0) ≠ b1014 := Nat.ne_of_lt (Nat.lt_of_lt_of_le f1015.lt (Nat.le_of_eq g1014.symm))
    have ne1014__w_1_ : (w 1) ≠ b1014 := Nat.ne_of_lt (Nat.lt_of_lt_of_le f1016.lt (Nat.le_of_eq g1014.symm))
    have ne1014__w_2_ : (w 2) ≠ b1014 := Nat.ne_of_lt (Nat.lt_of_lt_of_le f1017.lt (Nat.le_of_eq g1014.symm))
    have ne1014_b1 : b1 ≠ b1014 := Nat.ne_of_lt (Nat.lt_of_lt_of_le f1013.lt (Nat.le_of_eq g1014.symm))
    have ne1014_b17 : b17 ≠ b1014 := Nat.ne_of_lt (Nat.lt_of_lt_of_le f1018.lt (Nat.le_of_eq g1014.symm))
    have ne1014_b21 : b21 ≠ b1014 := Nat.ne_of_lt (Nat.lt_of_lt_of_le f1019.lt (Nat.le_of_eq g1014.symm))
    have ne1014_b26 : b26 ≠ b1014 := Nat.ne_of_lt (Nat.lt_of_lt_of_le f1020.lt (Nat.le_of_eq g1014.symm))
    have ne1014_t44 : t44 ≠ b1014 := Nat.ne_of_lt (Nat.lt_of_lt_of_le f1021.lt (Nat.le_of_eq g1014.symm))
    have ne1014_b1001 : b1001 ≠ b1014 := Nat.ne_of_lt (Nat.lt_of_lt_of_le V1011.lt (Nat.le_of_eq g1014.symm))
    have g_b1014 : n0 ≤ b1014 := Nat.le_trans Z1011 (Nat.le_of_eq g1014.symm)
    have sz_b1014 : h0.size ≤ b1014 := Nat.le_trans K1011.1 (Nat.le_of_eq g1014.symm)
    have F1014_visible : Fld Z h1014 b1014 "com/example/killdeer/killdeer/GadgetView" "visible" "Z" (.int 0) := D1014 (Or.inr (wd hw 48 rfl)) (ty := .boolean) (by decide)
    have F1014_appearance : Fld Z h1014 b1014 "com/example/killdeer/killdeer/GadgetView" "appearance" "Ljava/lang/String;" .null := D1014 (Or.inr (wd hw 50 rfl)) (ty := (.object "java/lang/String")) (by decide)
    have F1014_x : Fld Z h1014 b1014 "com/example/killdeer/killdeer/GadgetView" "x" "J" (.long 0) := D1014 (Or.inr (wd hw 52 rfl)) (ty := .long) (by decide)
    have F1014_y : Fld Z h1014 b1014 "com/example/killdeer/killdeer/GadgetView" "y" "J" (.long 0) := D1014 (Or.inr (wd hw 54 rfl)) (ty := .long) (by decide)
    have F1014_width : Fld Z h1014 b1014 "com/example/killdeer/killdeer/GadgetView" "width" "J" (.long 0) := D1014 (Or.inr (wd hw 56 rfl)) (ty := .long) (by decide)
    have F1014_height : Fld Z h1014 b1014 "com/example/killdeer/killdeer/GadgetView" "height" "J" (.long 0) := D1014 (Or.inr (wd hw 58 rfl)) (ty := .long) (by decide)
    have F1014_obscured : Fld Z h1014 b1014 "com/example/killdeer/killdeer/GadgetView" "obscured" "Lcom/example/killdeer/killdeer/GadgetView$Obscured;" .null := D1014 (Or.inr (wd hw 60 rfl)) (ty := (.object "com/example/killdeer/killdeer/GadgetView$Obscured")) (by decide)
    have K1014 : Keep h0 h1014 [] := Keep.ext K1011 E1014
    have Z1014 : n0 ≤ h1014.size := Nat.le_trans Z1011 E1014.1
    refine Goes.by st1014 ?_
    refine Goes.by (fun _ kz => XS.dup X1014.here hx rfl (hb hby at_341) rfl rfl (XS.iload X1014.here hx rfl (hb hby at_342) rfl kz)) ?_
    have f1023 := (f1015.ext E1014)
    have f1024 := (f1016.ext E1014)
    have f1025 := (f1017.ext E1014)
    have f1026 := (f1013.ext E1014)
    have f1027 := (f1018.ext E1014)
    have f1028 := (f1019.ext E1014)
    have f1029 := (f1020.ext E1014)
    have f1030 := (f1021.ext E1014)
    have f1031 := (V1011.ext E1014)
    obtain ⟨T1022, h1022, X1022, e1022, E1022, A1022, D1022, -, st1022⟩ := newO X1014 hx hZ hown (wd hw 13 rfl) (wd hw 14 rfl) (wd hw 15 rfl) e1014 (g := (mkF m 344 #[lv p1, .second, lv p2, .second, lv p3, .second, lv p4, .second, iv p5, iv p6, rv b1, iv z1, iv z2, iv oi, iv oj, iv ch0, iv ch1, iv ch2, iv zB, iv 6, iv (((p6.toUInt32 >>> ((4 : Int32) &&& 31).toUInt32).toInt32) &&& (3 : Int32)), rv b17, iv z1, rv b1001, lv p1, .second, lv p2, .second, lv p3, .second, lv p1, .second, rv (own_o w oi), .unset, .unset, .unset] [(.int z1), (.ref b1014), (.ref b1014)])) rfl (hb hby at_344) (by decide) (by decide)
    obtain ⟨b1022, g1022⟩ : ∃ z, z = h1014.size := ⟨_, rfl⟩
    rw [← g1022] at A1022 D1022 st1022
    have ne1022__w_0_ : (w 0) ≠ b1022 := Nat.ne_of_lt (Nat.lt_of_lt_of_le f1023.lt (Nat.le_of_eq g1022.symm))
    have ne1022__w_1_ : (w 1) ≠ b1022 := Nat.ne_of_lt (Nat.lt_of_lt_of_le f1024.lt (Nat.le_of_eq g1022.symm))
    have ne1022__w_2_ : (w 2) ≠ b1022 := Nat.ne_of_lt (Nat.lt_of_lt_of_le f1025.lt (Nat.le_of_eq g1022.symm))
    have ne1022_b1 : b1 ≠ b1022 := Nat.ne_of_lt (Nat.lt_of_lt_of_le f1026.lt (Nat.le_of_eq g1022.symm))
    have ne1022_b17 : b17 ≠ b1022 := Nat.ne_of_lt (Nat.lt_of_lt_of_le f1027.lt (Nat.le_of_eq g1022.symm))
    have ne1022_b21 : b21 ≠ b1022 := Nat.ne_of_lt (Nat.lt_of_lt_of_le f1028.lt (Nat.le_of_eq g1022.symm))
    have ne1022_b26 : b26 ≠ b1022 := Nat.ne_of_lt (Nat.lt_of_lt_of_le f1029.lt (Nat.le_of_eq g1022.symm))
    have ne1022_t44 : t44 ≠ b1022 := Nat.ne_of_lt (Nat.lt_of_lt_of_le f1030.lt (Nat.le_of_eq g1022.symm))
    have ne1022_b1001 : b1001 ≠ b1022 := Nat.ne_of_lt (Nat.lt_of_lt_of_le f1031.lt (Nat.le_of_eq g1022.symm))
    have ne1022_b1014 : b1014 ≠ b1022 := Nat.ne_of_lt (Nat.lt_of_lt_of_le A1014.lt (Nat.le_of_eq g1022.symm))
    have g_b1022 : n0 ≤ b1022 := Nat.le_trans Z1014 (Nat.le_of_eq g1022.symm)
    have sz_b1022 : h0.size ≤ b1022 := Nat.le_trans K1014.1 (Nat.le_of_eq g1022.symm)
    have F1022_coder : Fld Z h1022 b1022 "java/lang/String" "coder" "B" (.int 0) := D1022 (Or.inr (wd hw 40 rfl)) (ty := .byte) (by decide)
    have F1022_value : Fld Z h1022 b1022 "java/lang/String" "value" "[B" .null := D1022 (Or.inr (wd hw 42 rfl)) (ty := (.array .byte)) (by decide)
    have K1022 : Keep h0 h1022 [] := Keep.ext K1014 E1022
    have Z1022 : n0 ≤ h1022.size := Nat.le_trans Z1014 E1022.1
    refine Goes.by st1022 ?_
    refine Goes.by (fun _ kz => XS.dup X1022.here hx rfl (hb hby at_347) rfl rfl (XS.aload X1022.here hx rfl (hb hby at_348) rfl rfl kz)) ?_
    show Goes p e below (T1022.setTop (mkF m 350 #[lv p1, .second, lv p2, .second, lv p3, .second, lv p4, .second, iv p5, iv p6, rv b1, iv z1, iv z2, iv oi, iv oj, iv ch0, iv ch1, iv ch2, iv zB, iv 6, iv (((p6.toUInt32 >>> ((4 : Int32) &&& 31).toUInt32).toInt32) &&& (3 : Int32)), rv b17, iv z1, rv b1001, lv p1, .second, lv p2, .second, lv p3, .second, lv p1, .second, rv (own_o w oi), .unset, .unset, .unset] [(.ref b1001), (.ref b1022), (.ref b1022), (.int z1), (.ref b1014), (.ref b1014)])) _
    have f1032 := (f1031.ext E1022)
    have f1033 := (((Sta.wr W1011 (Sta.wr W1010 ((own_staKeep (own_staKeep f37 Kq44 (allS (own_nsE f34) all0)) Kq81 (allS (own_nsE f73) all0)).ext E1001))).ext E1014).ext E1022)
    have f1034 := (f1023.ext E1022)
    have f1035 := (f1024.ext E1022)
    have f1036 := (f1025.ext E1022)
    have f1037 := (f1026.ext E1022)
    have f1038 := (f1027.ext E1022)
    have f1039 := (f1028.ext E1022)
    have f1040 := (f1029.ext E1022)
    have f1041 := (f1030.ext E1022)
    have f1042 := (A1014.ext E1022)
    have hp1043 : ∀ c ∈ ([ch0, ch1] : List Int32), ¬ c < 0 ∧ ¬ (255 : Int32) < c := by
      intro c hc; simp only [List.mem_cons, List.not_mem_nil, or_false] at hc
      rcases hc with hc | hc
      · rw [hc]; exact hb_ch0
      · rw [hc]; exact hb_ch1
    have hcd1043 : StrChars.Road.CodA ([ch0, ch1] : List Int32) 0 (2 : Int32) ((([ch0, ch1] : List Int32).map (fun c => c.toInt8.toInt32)).map Value.int) := StrChars.Road.codOf (n := 2) rfl (fun c hc => (hp1043 c hc).2)
    have hbd1043 := own_up _ hp1043
    obtain ⟨_, _, ⟨T1044, L1044, k1044, n1044⟩, -, X1044, ⟨Lc1044, hQ1044, l1044, y1044, z1044⟩, st1044⟩ := X1022.specialBack hx (y := (⟨"java/lang/String", "<init>", "([C)V"⟩ : MethodName)) rfl hown (mvT hZ (wd hw 17 rfl)) (mvT hZ (wd hw 18 rfl)) (mvT hZ (wd hw 19 rfl)) (by decide) (StrChars.Road.backV (W := 4) hZ hws (kI := 4) (wd hw 14 rfl) (cs := ([ch0, ch1] : List Int32)) (bs := (([ch0, ch1] : List Int32).map (fun c => c.toInt8.toInt32))) (n := 2) g_b1022 Z1022 A1022 F1022_value F1022_coder f1032 f1033 hzc rfl rfl (by decide) (by decide) hp1043 rfl (by decide) (by decide)) (g := (mkF m 350 #[lv p1, .second, lv p2, .second, lv p3, .second, lv p4, .second, iv p5, iv p6, rv b1, iv z1, iv z2, iv oi, iv oj, iv ch0, iv ch1, iv ch2, iv zB, iv 6, iv (((p6.toUInt32 >>> ((4 : Int32) &&& 31).toUInt32).toInt32) &&& (3 : Int32)), rv b17, iv z1, rv b1001, lv p1, .second, lv p2, .second, lv p3, .second, lv p1, .second, rv (own_o w oi), .unset, .unset, .unset] [(.ref b1001), (.ref b1022), (.ref b1022), (.int z1), (.ref b1014), (.ref b1014)])) rfl (by rw [hml]; rfl) (Steps.refl _) (a := b1022) (argsL := [(.ref b1001)]) (rest := [(.ref b1022), (.int z1), (.ref b1014), (.ref b1014)]) (lenOf pd0 rfl) rfl (by show 2 * 0 + _ ≤ _; exact Nat.le_of_eq rfl) (hb hby at_350) (fun _ _ => ⟨rfl, e1022, (by decide : 8 + 1 ≤ _), (by decide : 31 + 2 ≤ _)⟩)
    dsimp only [Pt.U, Pt.locs, Pt.cells, Pt.slots] at X1044 l1044 y1044 z1044 st1044 hQ1044
    subst l1044 y1044 z1044
    obtain ⟨rfl, Nq1044, Kq1044, gE1044, gC1044, t1044, kb1044, u1_1044, u2_1044, u3_1044, gV1044, gA1044⟩ := hQ1044
    have K1044 : Keep h0 T1044.heap [] := Keep.trans K1022 Kq1044 (allS (Or.inr sz_b1022) all0)
    have Z1044 : n0 ≤ T1044.heap.size := Nat.le_trans Z1022 Kq1044.1
    have net1044__w_0_ : (w 0) ≠ t1044 := Nat.ne_of_lt (Nat.lt_of_lt_of_le f1034.lt u2_1044)
    have net1044__w_1_ : (w 1) ≠ t1044 := Nat.ne_of_lt (Nat.lt_of_lt_of_le f1035.lt u2_1044)
    have net1044__w_2_ : (w 2) ≠ t1044 := Nat.ne_of_lt (Nat.lt_of_lt_of_le f1036.lt u2_1044)
    have net1044_b1 : b1 ≠ t1044 := Nat.ne_of_lt (Nat.lt_of_lt_of_le f1037.lt u2_1044)
    have net1044_b17 : b17 ≠ t1044 := Nat.ne_of_lt (Nat.lt_of_lt_of_le f1038.lt u2_1044)
    have net1044_b21 : b21 ≠ t1044 := Nat.ne_of_lt (Nat.lt_of_lt_of_le f1039.lt u2_1044)
    have net1044_b26 : b26 ≠ t1044 := Nat.ne_of_lt (Nat.lt_of_lt_of_le f1040.lt u2_1044)
    have net1044_t44 : t44 ≠ t1044 := Nat.ne_of_lt (Nat.lt_of_lt_of_le f1041.lt u2_1044)
    have net1044_b1001 : b1001 ≠ t1044 := Nat.ne_of_lt (Nat.lt_of_lt_of_le f1032.lt u2_1044)
    have net1044_b1014 : b1014 ≠ t1044 := Nat.ne_of_lt (Nat.lt_of_lt_of_le f1042.lt u2_1044)
    have net1044_b1022 : b1022 ≠ t1044 := Nat.ne_of_lt (Nat.lt_of_lt_of_le A1022.lt u2_1044)
    have g_t1044 : n0 ≤ t1044 := Nat.le_trans Z1022 u2_1044
    have sz_t1044 : h0.size ≤ t1044 := Nat.le_trans K1022.1 u2_1044
    have N1044 := Fr.app N1011 Nq1044
    refine Goes.tr st1044 ?_
    refine Goes.by (fun _ kz => XS.lload X1044.here hx rfl (hb hby at_353) rfl (XS.lload X1044.here hx rfl (hb hby at_355) rfl (XS.lload X1044.here hx rfl (hb hby at_357) rfl kz))) ?_
    show Goes p e below (T1044.setTop (mkF m 359 #[lv p1, .second, lv p2, .second, lv p3, .second, lv p4, .second, iv p5, iv p6, rv b1, iv z1, iv z2, iv oi, iv oj, iv ch0, iv ch1, iv ch2, iv zB, iv 6, iv (((p6.toUInt32 >>> ((4 : Int32) &&& 31).toUInt32).toInt32) &&& (3 : Int32)), rv b17, iv z1, rv b1001, lv p1, .second, lv p2, .second, lv p3, .second, lv p1, .second, rv (own_o w oi), .unset, .unset, .unset] [(.long p3), (.long p2), (.long p1), (.ref b1022), (.int z1), (.ref b1014), (.ref b1014)])) _
    refine Goes.by (fun _ kz => XS.lload X1044.here hx rfl (hb hby at_359) rfl (XS.aload X1044.here hx rfl (hb hby at_361) rfl rfl kz)) ?_
    have f1045 := (f1042.keep Kq1044)
    have f1046 := ((F1014_visible.ext E1022).keep Kq1044 (ninS ne1022_b1014 nin0))
    have f1047 := ((F1014_appearance.ext E1022).keep Kq1044 (ninS ne1022_b1014 nin0))
    have f1048 := ((F1014_x.ext E1022).keep Kq1044 (ninS ne1022_b1014 nin0))
    have f1049 := ((F1014_y.ext E1022).keep Kq1044 (ninS ne1022_b1014 nin0))
    have f1050 := ((F1014_width.ext E1022).keep Kq1044 (ninS ne1022_b1014 nin0))
    have f1051 := ((F1014_height.ext E1022).keep Kq1044 (ninS ne1022_b1014 nin0))
    have f1052 := ((F1014_obscured.ext E1022).keep Kq1044 (ninS ne1022_b1014 nin0))
    obtain ⟨_, _, ⟨T1053, L1053, k1053, n1053⟩, -, X1053, ⟨Lc1053, hQ1053, l1053, y1053, z1053⟩, st1053⟩ := X1044.specialBack hx (y := (⟨"com/example/killdeer/killdeer/GadgetView", "<init>", "(ZLjava/lang/String;JJJJLcom/example/killdeer/killdeer/GadgetView$Obscured;)V"⟩ : MethodName)) rfl hown (mvT hZ (wd hw 43 rfl)) (mvT hZ (wd hw 44 rfl)) (mvT hZ (wd hw 45 rfl)) (by decide) (backOf (W := 1) (r7_0 l Z a0 hw [] T1044.heap n0 Z1044 b1014 z1 b1022 p1 p2 p3 p1 (own_o w oi) f1045 f1046 f1047 f1048 f1049 f1050 f1051 f1052 g_b1014) hZ (wd hw 45 rfl) (wd hw 12 rfl) (by decide) (by decide)) (g := (mkF m 363 #[lv p1, .second, lv p2, .second, lv p3, .second, lv p4, .second, iv p5, iv p6, rv b1, iv z1, iv z2, iv oi, iv oj, iv ch0, iv ch1, iv ch2, iv zB, iv 6, iv (((p6.toUInt32 >>> ((4 : Int32) &&& 31).toUInt32).toInt32) &&& (3 : Int32)), rv b17, iv z1, rv b1001, lv p1, .second, lv p2, .second, lv p3, .second, lv p1, .second, rv (own_o w oi), .unset, .unset, .unset] [(.ref (own_o w oi)), (.long p1), (.long p3), (.long p2), (.long p1), (.ref b1022), (.int z1), (.ref b1014), (.ref b1014)])) rfl (by rw [hml]; rfl) (Steps.refl _) (a := b1014) (argsL := [(.int z1), (.ref b1022), (.long p1), (.long p2), (.long p3), (.long p1), (.ref (own_o w oi))]) (rest := [(.ref b1014)]) (lenOf pd1 rfl) rfl (by show 2 * 0 + _ ≤ _; exact Nat.le_of_eq rfl) (hb hby at_363) (fun _ _ => ⟨rfl, rfl, (by decide : 9 + 0 ≤ _), (by decide : 33 + 0 ≤ _)⟩)
    dsimp only [Pt.U, Pt.locs, Pt.cells, Pt.slots] at X1053 l1053 y1053 z1053 st1053 hQ1053
    subst l1053 y1053 z1053
    obtain ⟨rfl, Nq1053, Kq1053, fq1053_0, fq1053_1, fq1053_2, fq1053_3, fq1053_4, fq1053_5, fq1053_6⟩ := hQ1053
    have K1053 : Keep h0 T1053.heap [] := Keep.trans K1044 Kq1053 (allS (Or.inr sz_b1014) all0)
    have Z1053 : n0 ≤ T1053.heap.size := Nat.le_trans Z1044 Kq1053.1
    have N1053 := Fr.app N1044 Nq1053
    refine Goes.tr st1053 ?_
    refine Goes.by (fun _ kz => XS.astore X1053.here hx rfl (hb hby at_366) rfl rfl rfl (XS.iload X1053.here hx rfl (hb hby at_368) rfl (XS.ifYes X1053.here hx rfl (pc0 := 370) (pc' := 379) rfl (hb hby at_370) rfl ((if0 _ _).trans (feq (by decide : ¬ ((6 : Int32) = (0 : Int32)))).2) (by decide) (by decide) kz))) ?_
    show Goes p e below (T1053.setTop (mkF m 379 #[lv p1, .second, lv p2, .second, lv p3, .second, lv p4, .second, iv p5, iv p6, rv b1, iv z1, iv z2, iv oi, iv oj, iv ch0, iv ch1, iv ch2, iv zB, iv 6, iv (((p6.toUInt32 >>> ((4 : Int32) &&& 31).toUInt32).toInt32) &&& (3 : Int32)), rv b17, iv z1, rv b1001, lv p1, .second, lv p2, .second, lv p3, .second, lv p1, .second, rv (own_o w oi), rv b1014, .unset, .unset] [])) _
    refine Goes.by (fun _ kz => XS.iload X1053.here hx rfl (hb hby at_379) rfl (XS.iconst X1053.here hx rfl (hb hby at_381) (XS.icmpYes X1053.here hx rfl (pc0 := 382) (pc' := 402) rfl (hb hby at_382) rfl (feq (by decide : ¬ ((6 : Int32) = (1 : Int32)))).2 (by decide) (by decide) kz))) ?_
    show Goes p e below (T1053.setTop (mkF m 402 #[lv p1, .second, lv p2, .second, lv p3, .second, lv p4, .second, iv p5, iv p6, rv b1, iv z1, iv z2, iv oi, iv oj, iv ch0, iv ch1, iv ch2, iv zB, iv 6, iv (((p6.toUInt32 >>> ((4 : Int32) &&& 31).toUInt32).toInt32) &&& (3 : Int32)), rv b17, iv z1, rv b1001, lv p1, .second, lv p2, .second, lv p3, .second, lv p1, .second, rv (own_o w oi), rv b1014, .unset, .unset] [])) _
    refine Goes.by (fun _ kz => XS.iload X1053.here hx rfl (hb hby at_402) rfl (XS.iconst X1053.here hx rfl (hb hby at_404) (XS.icmpYes X1053.here hx rfl (pc0 := 405) (pc' := 430) rfl (hb hby at_405) rfl (feq (by decide : ¬ ((6 : Int32) = (2 : Int32)))).2 (by decide) (by decide) kz))) ?_
    show Goes p e below (T1053.setTop (mkF m 430 #[lv p1, .second, lv p2, .second, lv p3, .second, lv p4, .second, iv p5, iv p6, rv b1, iv z1, iv z2, iv oi, iv oj, iv ch0, iv ch1, iv ch2, iv zB, iv 6, iv (((p6.toUInt32 >>> ((4 : Int32) &&& 31).toUInt32).toInt32) &&& (3 : Int32)), rv b17, iv z1, rv b1001, lv p1, .second, lv p2, .second, lv p3, .second, lv p1, .second, rv (own_o w oi), rv b1014, .unset, .unset] [])) _
    refine Goes.by (fun _ kz => XS.iload X1053.here hx rfl (hb hby at_430) rfl (XS.iconst X1053.here hx rfl (hb hby at_432) (XS.icmpYes X1053.here hx rfl (pc0 := 433) (pc' := 453) rfl (hb hby at_433) rfl (feq (by decide : ¬ ((6 : Int32) = (3 : Int32)))).2 (by decide) (by decide) kz))) ?_
    show Goes p e below (T1053.setTop (mkF m 453 #[lv p1, .second, lv p2, .second, lv p3, .second, lv p4, .second, iv p5, iv p6, rv b1, iv z1, iv z2, iv oi, iv oj, iv ch0, iv ch1, iv ch2, iv zB, iv 6, iv (((p6.toUInt32 >>> ((4 : Int32) &&& 31).toUInt32).toInt32) &&& (3 : Int32)), rv b17, iv z1, rv b1001, lv p1, .second, lv p2, .second, lv p3, .second, lv p1, .second, rv (own_o w oi), rv b1014, .unset, .unset] [])) _
    refine Goes.by (fun _ kz => XS.iload X1053.here hx rfl (hb hby at_453) rfl (XS.iconst X1053.here hx rfl (hb hby at_455) (XS.icmpYes X1053.here hx rfl (pc0 := 456) (pc' := 476) rfl (hb hby at_456) rfl (feq (by decide : ¬ ((6 : Int32) = (4 : Int32)))).2 (by decide) (by decide) kz))) ?_
    show Goes p e below (T1053.setTop (mkF m 476 #[lv p1, .second, lv p2, .second, lv p3, .second, lv p4, .second, iv p5, iv p6, rv b1, iv z1, iv z2, iv oi, iv oj, iv ch0, iv ch1, iv ch2, iv zB, iv 6, iv (((p6.toUInt32 >>> ((4 : Int32) &&& 31).toUInt32).toInt32) &&& (3 : Int32)), rv b17, iv z1, rv b1001, lv p1, .second, lv p2, .second, lv p3, .second, lv p1, .second, rv (own_o w oi), rv b1014, .unset, .unset] [])) _
    refine Goes.by (fun _ kz => XS.iload X1053.here hx rfl (hb hby at_476) rfl (XS.iconst X1053.here hx rfl (hb hby at_478) (XS.icmpYes X1053.here hx rfl (pc0 := 479) (pc' := 500) rfl (hb hby at_479) rfl (feq (by decide : ¬ ((6 : Int32) = (5 : Int32)))).2 (by decide) (by decide) kz))) ?_
    show Goes p e below (T1053.setTop (mkF m 500 #[lv p1, .second, lv p2, .second, lv p3, .second, lv p4, .second, iv p5, iv p6, rv b1, iv z1, iv z2, iv oi, iv oj, iv ch0, iv ch1, iv ch2, iv zB, iv 6, iv (((p6.toUInt32 >>> ((4 : Int32) &&& 31).toUInt32).toInt32) &&& (3 : Int32)), rv b17, iv z1, rv b1001, lv p1, .second, lv p2, .second, lv p3, .second, lv p1, .second, rv (own_o w oi), rv b1014, .unset, .unset] [])) _
    refine Goes.by (fun _ kz => XS.iload X1053.here hx rfl (hb hby at_500) rfl (XS.bipush X1053.here hx rfl (hb hby at_502) (XS.icmpNo X1053.here hx rfl (hb hby at_504) rfl (teq (by decide : (6 : Int32) = (6 : Int32))).2 kz))) ?_
    show Goes p e below (T1053.setTop (mkF m 507 #[lv p1, .second, lv p2, .second, lv p3, .second, lv p4, .second, iv p5, iv p6, rv b1, iv z1, iv z2, iv oi, iv oj, iv ch0, iv ch1, iv ch2, iv zB, iv 6, iv (((p6.toUInt32 >>> ((4 : Int32) &&& 31).toUInt32).toInt32) &&& (3 : Int32)), rv b17, iv z1, rv b1001, lv p1, .second, lv p2, .second, lv p3, .second, lv p1, .second, rv (own_o w oi), rv b1014, .unset, .unset] [])) _
    refine Goes.by (fun _ kz => XS.lloadN X1053.here hx rfl (hb hby at_507) rfl (XS.lload X1053.here hx rfl (hb hby at_508) rfl (XS.lcmp X1053.here hx rfl (hb hby at_510) rfl kz))) ?_
    show Goes p e below (T1053.setTop (mkF m 511 #[lv p1, .second, lv p2, .second, lv p3, .second, lv p4, .second, iv p5, iv p6, rv b1, iv z1, iv z2, iv oi, iv oj, iv ch0, iv ch1, iv ch2, iv zB, iv 6, iv (((p6.toUInt32 >>> ((4 : Int32) &&& 31).toUInt32).toInt32) &&& (3 : Int32)), rv b17, iv z1, rv b1001, lv p1, .second, lv p2, .second, lv p3, .second, lv p1, .second, rv (own_o w oi), rv b1014, .unset, .unset] [(.int (lcmpW p1 p4))])) _
    refine Goes.join (fun ze : Int32 => (ze = 1 ∧ p1 = p4) ∨ (ze = 0 ∧ ¬ p1 = p4)) (fun ze => T1053.setTop (mkF m 519 #[lv p1, .second, lv p2, .second, lv p3, .second, lv p4, .second, iv p5, iv p6, rv b1, iv z1, iv z2, iv oi, iv oj, iv ch0, iv ch1, iv ch2, iv zB, iv 6, iv (((p6.toUInt32 >>> ((4 : Int32) &&& 31).toUInt32).toInt32) &&& (3 : Int32)), rv b17, iv z1, rv b1001, lv p1, .second, lv p2, .second, lv p3, .second, lv p1, .second, rv (own_o w oi), rv b1014, .unset, .unset] [(.int ze)])) (fun J => ?_) (fun ze hze => ?_)
    · show Goes p e below (T1053.setTop (mkF m 511 #[lv p1, .second, lv p2, .second, lv p3, .second, lv p4, .second, iv p5, iv p6, rv b1, iv z1, iv z2, iv oi, iv oj, iv ch0, iv ch1, iv ch2, iv zB, iv 6, iv (((p6.toUInt32 >>> ((4 : Int32) &&& 31).toUInt32).toInt32) &&& (3 : Int32)), rv b17, iv z1, rv b1001, lv p1, .second, lv p2, .second, lv p3, .second, lv p1, .second, rv (own_o w oi), rv b1014, .unset, .unset] [(.int (lcmpW p1 p4))])) _
      by_cases hc1054 : p1 = p4
      · refine Goes.by (fun _ kz => XS.ifNo X1053.here hx rfl (hb hby at_511) rfl ((if0 _ _).trans (teq (own_eq hc1054)).2) (XS.iconst X1053.here hx rfl (hb hby at_514) (XS.goto X1053.here hx rfl (pc0 := 515) (pc' := 519) rfl (hb hby at_515) (by decide) (by decide) kz))) ?_
        show Goes p e below (T1053.setTop (mkF m 519 #[lv p1, .second, lv p2, .second, lv p3, .second, lv p4, .second, iv p5, iv p6, rv b1, iv z1, iv z2, iv oi, iv oj, iv ch0, iv ch1, iv ch2, iv zB, iv 6, iv (((p6.toUInt32 >>> ((4 : Int32) &&& 31).toUInt32).toInt32) &&& (3 : Int32)), rv b17, iv z1, rv b1001, lv p1, .second, lv p2, .second, lv p3, .second, lv p1, .second, rv (own_o w oi), rv b1014, .unset, .unset] [(.int 1)])) _
        exact J (1 : Int32) (Or.inl ⟨rfl, hc1054⟩)
      · refine Goes.by (fun _ kz => XS.ifYes X1053.here hx rfl (pc0 := 511) (pc' := 518) rfl (hb hby at_511) rfl ((if0 _ _).trans (feq (own_neq hc1054)).2) (by decide) (by decide) (XS.iconst X1053.here hx rfl (hb hby at_518) kz)) ?_
        show Goes p e below (T1053.setTop (mkF m 519 #[lv p1, .second, lv p2, .second, lv p3, .second, lv p4, .second, iv p5, iv p6, rv b1, iv z1, iv z2, iv oi, iv oj, iv ch0, iv ch1, iv ch2, iv zB, iv 6, iv (((p6.toUInt32 >>> ((4 : Int32) &&& 31).toUInt32).toInt32) &&& (3 : Int32)), rv b17, iv z1, rv b1001, lv p1, .second, lv p2, .second, lv p3, .second, lv p1, .second, rv (own_o w oi), rv b1014, .unset, .unset] [(.int 0)])) _
        exact J (0 : Int32) (Or.inr ⟨rfl, hc1054⟩)
    show Goes p e below (T1053.setTop (mkF m 519 #[lv p1, .second, lv p2, .second, lv p3, .second, lv p4, .second, iv p5, iv p6, rv b1, iv z1, iv z2, iv oi, iv oj, iv ch0, iv ch1, iv ch2, iv zB, iv 6, iv (((p6.toUInt32 >>> ((4 : Int32) &&& 31).toUInt32).toInt32) &&& (3 : Int32)), rv b17, iv z1, rv b1001, lv p1, .second, lv p2, .second, lv p3, .second, lv p1, .second, rv (own_o w oi), rv b1014, .unset, .unset] [(.int ze)])) _
    refine Goes.by (fun _ kz => XS.istore X1053.here hx rfl (hb hby at_519) rfl rfl (XS.goto X1053.here hx rfl (pc0 := 521) (pc' := 538) rfl (hb hby at_521) (by decide) (by decide) kz)) ?_
    show Goes p e below (T1053.setTop (mkF m 538 #[lv p1, .second, lv p2, .second, lv p3, .second, lv p4, .second, iv p5, iv p6, rv b1, iv z1, iv z2, iv oi, iv oj, iv ch0, iv ch1, iv ch2, iv zB, iv 6, iv (((p6.toUInt32 >>> ((4 : Int32) &&& 31).toUInt32).toInt32) &&& (3 : Int32)), rv b17, iv z1, rv b1001, lv p1, .second, lv p2, .second, lv p3, .second, lv p1, .second, rv (own_o w oi), rv b1014, iv ze, .unset] [])) _
    have hsot := own_k (((p6.toUInt32 >>> ((4 : Int32) &&& 31).toUInt32).toInt32))
    obtain ⟨ot, hot⟩ : ∃ z, z = (((p6.toUInt32 >>> ((4 : Int32) &&& 31).toUInt32).toInt32) &&& (3 : Int32)) := ⟨_, rfl⟩
    rw [← hot] at hsot ⊢
    rcases hsot with rfl | rfl | rfl | rfl
    · show Goes p e below (T1053.setTop (mkF m 538 #[lv p1, .second, lv p2, .second, lv p3, .second, lv p4, .second, iv p5, iv p6, rv b1, iv z1, iv z2, iv oi, iv oj, iv ch0, iv ch1, iv ch2, iv zB, iv 6, iv 0, rv b17, iv z1, rv b1001, lv p1, .second, lv p2, .second, lv p3, .second, lv p1, .second, rv (own_o w oi), rv b1014, iv ze, .unset] [])) _
      refine Goes.by (fun _ kz => XS.iload X1053.here hx rfl (hb hby at_538) rfl (XS.iconst X1053.here hx rfl (hb hby at_540) (XS.icmpYes X1053.here hx rfl (pc0 := 541) (pc' := 552) rfl (hb hby at_541) rfl (feq (by decide : ¬ ((0 : Int32) = (1 : Int32)))).2 (by decide) (by decide) kz))) ?_
      show Goes p e below (T1053.setTop (mkF m 552 #[lv p1, .second, lv p2, .second, lv p3, .second, lv p4, .second, iv p5, iv p6, rv b1, iv z1, iv z2, iv oi, iv oj, iv ch0, iv ch1, iv ch2, iv zB, iv 6, iv 0, rv b17, iv z1, rv b1001, lv p1, .second, lv p2, .second, lv p3, .second, lv p1, .second, rv (own_o w oi), rv b1014, iv ze, .unset] [])) _
      refine Goes.by (fun _ kz => XS.iload X1053.here hx rfl (hb hby at_552) rfl (XS.iconst X1053.here hx rfl (hb hby at_554) (XS.icmpYes X1053.here hx rfl (pc0 := 555) (pc' := 573) rfl (hb hby at_555) rfl (feq (by decide : ¬ ((0 : Int32) = (2 : Int32)))).2 (by decide) (by decide) kz))) ?_
      show Goes p e below (T1053.setTop (mkF m 573 #[lv p1, .second, lv p2, .second, lv p3, .second, lv p4, .second, iv p5, iv p6, rv b1, iv z1, iv z2, iv oi, iv oj, iv ch0, iv ch1, iv ch2, iv zB, iv 6, iv 0, rv b17, iv z1, rv b1001, lv p1, .second, lv p2, .second, lv p3, .second, lv p1, .second, rv (own_o w oi), rv b1014, iv ze, .unset] [])) _
      refine Goes.by (fun _ kz => XS.iload X1053.here hx rfl (hb hby at_573) rfl (XS.iconst X1053.here hx rfl (hb hby at_575) (XS.icmpYes X1053.here hx rfl (pc0 := 576) (pc' := 612) rfl (hb hby at_576) rfl (feq (by decide : ¬ ((0 : Int32) = (3 : Int32)))).2 (by decide) (by decide) kz))) ?_
      show Goes p e below (T1053.setTop (mkF m 612 #[lv p1, .second, lv p2, .second, lv p3, .second, lv p4, .second, iv p5, iv p6, rv b1, iv z1, iv z2, iv oi, iv oj, iv ch0, iv ch1, iv ch2, iv zB, iv 6, iv 0, rv b17, iv z1, rv b1001, lv p1, .second, lv p2, .second, lv p3, .second, lv p1, .second, rv (own_o w oi), rv b1014, iv ze, .unset] [])) _
      refine Goes.by (fun _ kz => XS.aload X1053.here hx rfl (hb hby at_612) rfl rfl (XS.aload X1053.here hx rfl (hb hby at_614) rfl rfl kz)) ?_
      have f1055 := ((f1038.keep Kq1044).keep Kq1053)
      have f1056 := (((((Fld.other W1011 (Fld.other W1010 (fq81_0.ext E1001) (Or.inl ne1001_b17)) (Or.inl ne1001_b17)).ext E1014).ext E1022).keep Kq1044 (ninS ne1022_b17 nin0)).keep Kq1053 (ninS ne1014_b17 nin0))
      have f1057 := (((((Fld.other W1011 (Fld.other W1010 (fq81_1.ext E1001) (Or.inl ne1001_b17)) (Or.inl ne1001_b17)).ext E1014).ext E1022).keep Kq1044 (ninS ne1022_b17 nin0)).keep Kq1053 (ninS ne1014_b17 nin0))
      have f1058 := (((((Fld.other W1011 (Fld.other W1010 (fq81_2.ext E1001) (Or.inl ne1001_b17)) (Or.inl ne1001_b17)).ext E1014).ext E1022).keep Kq1044 (ninS ne1022_b17 nin0)).keep Kq1053 (ninS ne1014_b17 nin0))
      have f1059 := (((((Fld.other W1011 (Fld.other W1010 (fq81_3.ext E1001) (Or.inl ne1001_b17)) (Or.inl ne1001_b17)).ext E1014).ext E1022).keep Kq1044 (ninS ne1022_b17 nin0)).keep Kq1053 (ninS ne1014_b17 nin0))
      have f1060 := (((((Fld.other W1011 (Fld.other W1010 (fq81_4.ext E1001) (Or.inl ne1001_b17)) (Or.inl ne1001_b17)).ext E1014).ext E1022).keep Kq1044 (ninS ne1022_b17 nin0)).keep Kq1053 (ninS ne1014_b17 nin0))
      have f1061 := (((((Fld.other W1011 (Fld.other W1010 (fq81_5.ext E1001) (Or.inl ne1001_b17)) (Or.inl ne1001_b17)).ext E1014).ext E1022).keep Kq1044 (ninS ne1022_b17 nin0)).keep Kq1053 (ninS ne1014_b17 nin0))
      have f1062 := (((((Fld.other W1011 (Fld.other W1010 (fq81_6.ext E1001) (Or.inl ne1001_b17)) (Or.inl ne1001_b17)).ext E1014).ext E1022).keep Kq1044 (ninS ne1022_b17 nin0)).keep Kq1053 (ninS ne1014_b17 nin0))
      have f1063 := ((f1039.keep Kq1044).keep Kq1053)
      have f1064 := (((((Fld.other W1011 (Fld.other W1010 ((gV44.keep Kq81 (ninS (Ne.symm ne21_b17) nin0)).ext E1001) (Or.inl ne1001_b21)) (Or.inl ne1001_b21)).ext E1014).ext E1022).keep Kq1044 (ninS ne1022_b21 nin0)).keep Kq1053 (ninS ne1014_b21 nin0))
      have f1065 := (((((Fld.other W1011 (Fld.other W1010 ((gC44.keep Kq81 (ninS (Ne.symm ne21_b17) nin0)).ext E1001) (Or.inl ne1001_b21)) (Or.inl ne1001_b21)).ext E1014).ext E1022).keep Kq1044 (ninS ne1022_b21 nin0)).keep Kq1053 (ninS ne1014_b21 nin0))
      have f1066 := ((f1041.keep Kq1044 (ninS ne1022_t44 nin0)).keep Kq1053 (ninS ne1014_t44 nin0))
      have f1067 := (f1045.keep Kq1053)
      have f1068 := ((A1022.keep Kq1044).keep Kq1053)
      have f1069 := (gV1044.keep Kq1053 (ninS (Ne.symm ne1022_b1014) nin0))
      have f1070 := (gC1044.keep Kq1053 (ninS (Ne.symm ne1022_b1014) nin0))
      have f1071 := (gA1044.keep Kq1053 (ninS (Ne.symm net1044_b1014) nin0))
      have f1072 := (own_staKeep (own_staKeep f1033 Kq1044 (allS (own_nsE A1022) all0)) Kq1053 (allS (own_nsE f1045) all0))
      obtain ⟨cq1073, kq1073, q1073a, q1073b, q1073c⟩ := isOf hZ rfl f1055
      obtain ⟨_, _, ⟨T1073, L1073, k1073, n1073⟩, -, X1073, ⟨Lc1073, hQ1073, l1073, y1073, z1073⟩, st1073⟩ := X1053.virtualBack hx (y := (⟨"com/example/killdeer/killdeer/GadgetView", "equals", "(Ljava/lang/Object;)Z"⟩ : MethodName)) (z := (⟨"com/example/killdeer/killdeer/GadgetView", "equals", "(Ljava/lang/Object;)Z"⟩ : MethodName)) hown (mvT hZ (wd hw 61 rfl)) (mvT hZ (wd hw 62 rfl)) (notFace_of_selects (args := #[]) (mvT hZ (wd hw 64 rfl))) (mvT hZ (wd hw 64 rfl)) (mvT hZ (wd hw 63 rfl)) (by decide) (backOf (W := 0) (r8_0 l Z a0 hw [] T1053.heap n0 Z1053 b17 b1014 (nar .boolean z1) (nar .boolean z1) b21 b1022 t44 t1044 kb44 kb1044 ([ch0, ch1] : List Int32) ([ch0, ch1] : List Int32) (2 : Int32) (2 : Int32) ((([ch0, ch1] : List Int32).map (fun c => c.toInt8.toInt32)).map Value.int) ((([ch0, ch1] : List Int32).map (fun c => c.toInt8.toInt32)).map Value.int) p1 p1 p2 p2 p3 p3 p4 p1 (own_o w oi) (own_o w oi) zc f1055 f1056 f1057 f1058 f1059 f1060 f1061 f1062 f1063 f1064 f1065 f1066 hcd43 hbd43 (by simp) f1067 fq1053_0 fq1053_1 fq1053_2 fq1053_3 fq1053_4 fq1053_5 fq1053_6 f1068 f1069 f1070 f1071 hcd1043 hbd1043 (by simp) f1072 hzc ne1014_b17) hZ (wd hw 65 rfl) (wd hw 12 rfl) (by decide) (by decide)) q1073a q1073c (g := (mkF m 616 #[lv p1, .second, lv p2, .second, lv p3, .second, lv p4, .second, iv p5, iv p6, rv b1, iv z1, iv z2, iv oi, iv oj, iv ch0, iv ch1, iv ch2, iv zB, iv 6, iv 0, rv b17, iv z1, rv b1001, lv p1, .second, lv p2, .second, lv p3, .second, lv p1, .second, rv (own_o w oi), rv b1014, iv ze, .unset] [(.ref b1014), (.ref b17)])) rfl (by rw [hml]; rfl) (Steps.refl _) (argsL := [(.ref b1014)]) (rest := []) (lenOf pd2 rfl) rfl (by show 2 * 0 + _ ≤ _; exact Nat.le_of_eq rfl) (hb hby at_616) (fun _ _ => ⟨rfl, rfl, (by decide : 9 + 0 ≤ _), (by decide : 33 + 0 ≤ _)⟩)
      dsimp only [Pt.U, Pt.locs, Pt.cells, Pt.slots] at X1073 l1073 y1073 z1073 st1073 hQ1073
      subst l1073 y1073 z1073
      rcases hQ1073 with hQ1073 | hQ1073
      · obtain ⟨rfl, Nq1073, e1073, hS1073⟩ := hQ1073
        have N1073 := Fr.app N1053 Nq1073
        refine Goes.tr st1073 ?_
        refine Goes.by (fun _ kz => XS.iload X1073.here hx rfl (hb hby at_619) rfl kz) ?_
        show Goes p e below (T1073.setTop (mkF m 621 #[lv p1, .second, lv p2, .second, lv p3, .second, lv p4, .second, iv p5, iv p6, rv b1, iv z1, iv z2, iv oi, iv oj, iv ch0, iv ch1, iv ch2, iv zB, iv 6, iv 0, rv b17, iv z1, rv b1001, lv p1, .second, lv p2, .second, lv p3, .second, lv p1, .second, rv (own_o w oi), rv b1014, iv ze, .unset] [(.int ze), (.int 1)])) _
        by_cases hc1074 : (1 : Int32) = ze
        · refine Goes.by (fun _ kz => XS.icmpNo X1073.here hx rfl (hb hby at_621) rfl (teq hc1074).2 (XS.aload X1073.here hx rfl (hb hby at_624) rfl rfl (XS.aload X1073.here hx rfl (hb hby at_626) rfl rfl kz))) ?_
          obtain ⟨cq1075, kq1075, q1075a, q1075b, q1075c⟩ := isOf hZ e1073 f1067
          obtain ⟨_, _, ⟨T1075, L1075, k1075, n1075⟩, -, X1075, ⟨Lc1075, hQ1075, l1075, y1075, z1075⟩, st1075⟩ := X1073.virtualBack hx (y := (⟨"com/example/killdeer/killdeer/GadgetView", "equals", "(Ljava/lang/Object;)Z"⟩ : MethodName)) (z := (⟨"com/example/killdeer/killdeer/GadgetView", "equals", "(Ljava/lang/Object;)Z"⟩ : MethodName)) hown (mvT hZ (wd hw 61 rfl)) (mvT hZ (wd hw 62 rfl)) (notFace_of_selects (args := #[]) (mvT hZ (wd hw 64 rfl))) (mvT hZ (wd hw 64 rfl)) (mvT hZ (wd hw 63 rfl)) (by decide) (backOf (W := 0) (r8_0 l Z a0 hw [] T1053.heap n0 Z1053 b1014 b17 (nar .boolean z1) (nar .boolean z1) b1022 b21 t1044 t44 kb1044 kb44 ([ch0, ch1] : List Int32) ([ch0, ch1] : List Int32) (2 : Int32) (2 : Int32) ((([ch0, ch1] : List Int32).map (fun c => c.toInt8.toInt32)).map Value.int) ((([ch0, ch1] : List Int32).map (fun c => c.toInt8.toInt32)).map Value.int) p1 p1 p2 p2 p3 p3 p1 p4 (own_o w oi) (own_o w oi) zc f1067 fq1053_0 fq1053_1 fq1053_2 fq1053_3 fq1053_4 fq1053_5 fq1053_6 f1068 f1069 f1070 f1071 hcd1043 hbd1043 (by simp) f1055 f1056 f1057 f1058 f1059 f1060 f1061 f1062 f1063 f1064 f1065 f1066 hcd43 hbd43 (by simp) f1072 hzc (Ne.symm ne1014_b17)) hZ (wd hw 65 rfl) (wd hw 12 rfl) (by decide) (by decide)) q1075a q1075c (g := (mkF m 628 #[lv p1, .second, lv p2, .second, lv p3, .second, lv p4, .second, iv p5, iv p6, rv b1, iv z1, iv z2, iv oi, iv oj, iv ch0, iv ch1, iv ch2, iv zB, iv 6, iv 0, rv b17, iv z1, rv b1001, lv p1, .second, lv p2, .second, lv p3, .second, lv p1, .second, rv (own_o w oi), rv b1014, iv ze, .unset] [(.ref b17), (.ref b1014)])) rfl (by rw [hml]; rfl) (Steps.refl _) (argsL := [(.ref b17)]) (rest := []) (lenOf pd2 rfl) rfl (by show 2 * 0 + _ ≤ _; exact Nat.le_of_eq rfl) (hb hby at_628) (fun _ _ => ⟨rfl, e1073, (by decide : 9 + 0 ≤ _), (by decide : 33 + 0 ≤ _)⟩)
          dsimp only [Pt.U, Pt.locs, Pt.cells, Pt.slots] at X1075 l1075 y1075 z1075 st1075 hQ1075
          subst l1075 y1075 z1075
          rcases hQ1075 with hQ1075 | hQ1075
          · obtain ⟨rfl, Nq1075, e1075, hS1075⟩ := hQ1075
            have N1075 := Fr.app N1073 Nq1075
            refine Goes.tr st1075 ?_
            refine Goes.by (fun _ kz => XS.iload X1075.here hx rfl (hb hby at_631) rfl (XS.icmpNo X1075.here hx rfl (hb hby at_633) rfl (teq hc1074).2 (XS.iconst X1075.here hx rfl (hb hby at_636) kz))) ?_
            show Goes p e below (T1075.setTop (mkF m 637 #[lv p1, .second, lv p2, .second, lv p3, .second, lv p4, .second, iv p5, iv p6, rv b1, iv z1, iv z2, iv oi, iv oj, iv ch0, iv ch1, iv ch2, iv zB, iv 6, iv 0, rv b17, iv z1, rv b1001, lv p1, .second, lv p2, .second, lv p3, .second, lv p1, .second, rv (own_o w oi), rv b1014, iv ze, .unset] [(.int 1)])) _
            refine Goes.by (fun _ kz => XS.goto X1075.here hx rfl (pc0 := 637) (pc' := 641) rfl (hb hby at_637) (by decide) (by decide) kz) ?_
            show Goes p e below (T1075.setTop (mkF m 641 #[lv p1, .second, lv p2, .second, lv p3, .second, lv p4, .second, iv p5, iv p6, rv b1, iv z1, iv z2, iv oi, iv oj, iv ch0, iv ch1, iv ch2, iv zB, iv 6, iv 0, rv b17, iv z1, rv b1001, lv p1, .second, lv p2, .second, lv p3, .second, lv p1, .second, rv (own_o w oi), rv b1014, iv ze, .unset] [(.int 1)])) _
            obtain ⟨fs, hr, hrun, hended, hW, hsame⟩ := X1075.leave (v := some (.int 1)) (fun h => by rw [Bd.returns] at h; cases h)
            exact ⟨_, _, retN X1075 hx (t := .boolean) Bd.returns (by simp) (hb hby at_641) hr, hrun, hended, _, _, rfl, ⟨rfl, N1075⟩, ⟨_, rfl⟩, hW, hsame.mono (by decide) (by decide)⟩
          · obtain ⟨rfl, Nq1075, e1075, hS1075⟩ := hQ1075
            have N1075 := Fr.app N1073 Nq1075
            refine Goes.tr st1075 ?_
            refine Goes.by (fun _ kz => XS.iload X1075.here hx rfl (hb hby at_631) rfl (XS.icmpYes X1075.here hx rfl (pc0 := 633) (pc' := 640) rfl (hb hby at_633) rfl (feq (by rw [← hc1074]; decide : ¬ ((0 : Int32) = ze))).2 (by decide) (by decide) (XS.iconst X1075.here hx rfl (hb hby at_640) kz))) ?_
            show Goes p e below (T1075.setTop (mkF m 641 #[lv p1, .second, lv p2, .second, lv p3, .second, lv p4, .second, iv p5, iv p6, rv b1, iv z1, iv z2, iv oi, iv oj, iv ch0, iv ch1, iv ch2, iv zB, iv 6, iv 0, rv b17, iv z1, rv b1001, lv p1, .second, lv p2, .second, lv p3, .second, lv p1, .second, rv (own_o w oi), rv b1014, iv ze, .unset] [(.int 0)])) _
            exfalso
            rcases hze with ⟨hz, hC⟩ | ⟨hz, hC⟩
            · first | (rw [hz] at hc1074; exact absurd hc1074 (by decide)) | (revert hS1075; simp [own_same, own_nb hz1, own_nb hz2, own_oinj pne01 pne02 pne12 h_oi h_oj, own_oinj pne01 pne02 pne12 h_oj h_oi, hC]; done)
            · first | (rw [hz] at hc1074; exact absurd hc1074 (by decide)) | (revert hS1075; simp [own_same, own_nb hz1, own_nb hz2, own_oinj pne01 pne02 pne12 h_oi h_oj, own_oinj pne01 pne02 pne12 h_oj h_oi, hC, Ne.symm hC]; done)
        · refine Goes.by (fun _ kz => XS.icmpYes X1073.here hx rfl (pc0 := 621) (pc' := 640) rfl (hb hby at_621) rfl (feq hc1074).2 (by decide) (by decide) (XS.iconst X1073.here hx rfl (hb hby at_640) kz)) ?_
          show Goes p e below (T1073.setTop (mkF m 641 #[lv p1, .second, lv p2, .second, lv p3, .second, lv p4, .second, iv p5, iv p6, rv b1, iv z1, iv z2, iv oi, iv oj, iv ch0, iv ch1, iv ch2, iv zB, iv 6, iv 0, rv b17, iv z1, rv b1001, lv p1, .second, lv p2, .second, lv p3, .second, lv p1, .second, rv (own_o w oi), rv b1014, iv ze, .unset] [(.int 0)])) _
          exfalso
          rcases hze with ⟨hz, hC⟩ | ⟨hz, hC⟩
          · first | (rw [hz] at hc1074; exact absurd hc1074 (by decide)) | (revert hS1073; simp [own_same, own_nb hz1, own_nb hz2, own_oinj pne01 pne02 pne12 h_oi h_oj, own_oinj pne01 pne02 pne12 h_oj h_oi, hC]; done)
          · first | (rw [hz] at hc1074; exact absurd hc1074 (by decide)) | (revert hS1073; simp [own_same, own_nb hz1, own_nb hz2, own_oinj pne01 pne02 pne12 h_oi h_oj, own_oinj pne01 pne02 pne12 h_oj h_oi, hC, Ne.symm hC]; done)
      · obtain ⟨rfl, Nq1073, e1073, hS1073⟩ := hQ1073
        have N1073 := Fr.app N1053 Nq1073
        refine Goes.tr st1073 ?_
        refine Goes.by (fun _ kz => XS.iload X1073.here hx rfl (hb hby at_619) rfl kz) ?_
        show Goes p e below (T1073.setTop (mkF m 621 #[lv p1, .second, lv p2, .second, lv p3, .second, lv p4, .second, iv p5, iv p6, rv b1, iv z1, iv z2, iv oi, iv oj, iv ch0, iv ch1, iv ch2, iv zB, iv 6, iv 0, rv b17, iv z1, rv b1001, lv p1, .second, lv p2, .second, lv p3, .second, lv p1, .second, rv (own_o w oi), rv b1014, iv ze, .unset] [(.int ze), (.int 0)])) _
        by_cases hc1076 : (0 : Int32) = ze
        · refine Goes.by (fun _ kz => XS.icmpNo X1073.here hx rfl (hb hby at_621) rfl (teq hc1076).2 (XS.aload X1073.here hx rfl (hb hby at_624) rfl rfl (XS.aload X1073.here hx rfl (hb hby at_626) rfl rfl kz))) ?_
          obtain ⟨cq1077, kq1077, q1077a, q1077b, q1077c⟩ := isOf hZ e1073 f1067
          obtain ⟨_, _, ⟨T1077, L1077, k1077, n1077⟩, -, X1077, ⟨Lc1077, hQ1077, l1077, y1077, z1077⟩, st1077⟩ := X1073.virtualBack hx (y := (⟨"com/example/killdeer/killdeer/GadgetView", "equals", "(Ljava/lang/Object;)Z"⟩ : MethodName)) (z := (⟨"com/example/killdeer/killdeer/GadgetView", "equals", "(Ljava/lang/Object;)Z"⟩ : MethodName)) hown (mvT hZ (wd hw 61 rfl)) (mvT hZ (wd hw 62 rfl)) (notFace_of_selects (args := #[]) (mvT hZ (wd hw 64 rfl))) (mvT hZ (wd hw 64 rfl)) (mvT hZ (wd hw 63 rfl)) (by decide) (backOf (W := 0) (r8_0 l Z a0 hw [] T1053.heap n0 Z1053 b1014 b17 (nar .boolean z1) (nar .boolean z1) b1022 b21 t1044 t44 kb1044 kb44 ([ch0, ch1] : List Int32) ([ch0, ch1] : List Int32) (2 : Int32) (2 : Int32) ((([ch0, ch1] : List Int32).map (fun c => c.toInt8.toInt32)).map Value.int) ((([ch0, ch1] : List Int32).map (fun c => c.toInt8.toInt32)).map Value.int) p1 p1 p2 p2 p3 p3 p1 p4 (own_o w oi) (own_o w oi) zc f1067 fq1053_0 fq1053_1 fq1053_2 fq1053_3 fq1053_4 fq1053_5 fq1053_6 f1068 f1069 f1070 f1071 hcd1043 hbd1043 (by simp) f1055 f1056 f1057 f1058 f1059 f1060 f1061 f1062 f1063 f1064 f1065 f1066 hcd43 hbd43 (by simp) f1072 hzc (Ne.symm ne1014_b17)) hZ (wd hw 65 rfl) (wd hw 12 rfl) (by decide) (by decide)) q1077a q1077c (g := (mkF m 628 #[lv p1, .second, lv p2, .second, lv p3, .second, lv p4, .second, iv p5, iv p6, rv b1, iv z1, iv z2, iv oi, iv oj, iv ch0, iv ch1, iv ch2, iv zB, iv 6, iv 0, rv b17, iv z1, rv b1001, lv p1, .second, lv p2, .second, lv p3, .second, lv p1, .second, rv (own_o w oi), rv b1014, iv ze, .unset] [(.ref b17), (.ref b1014)])) rfl (by rw [hml]; rfl) (Steps.refl _) (argsL := [(.ref b17)]) (rest := []) (lenOf pd2 rfl) rfl (by show 2 * 0 + _ ≤ _; exact Nat.le_of_eq rfl) (hb hby at_628) (fun _ _ => ⟨rfl, e1073, (by decide : 9 + 0 ≤ _), (by decide : 33 + 0 ≤ _)⟩)
          dsimp only [Pt.U, Pt.locs, Pt.cells, Pt.slots] at X1077 l1077 y1077 z1077 st1077 hQ1077
          subst l1077 y1077 z1077
          rcases hQ1077 with hQ1077 | hQ1077
          · obtain ⟨rfl, Nq1077, e1077, hS1077⟩ := hQ1077
            have N1077 := Fr.app N1073 Nq1077
            refine Goes.tr st1077 ?_
            refine Goes.by (fun _ kz => XS.iload X1077.here hx rfl (hb hby at_631) rfl (XS.icmpYes X1077.here hx rfl (pc0 := 633) (pc' := 640) rfl (hb hby at_633) rfl (feq (by rw [← hc1076]; decide : ¬ ((1 : Int32) = ze))).2 (by decide) (by decide) (XS.iconst X1077.here hx rfl (hb hby at_640) kz))) ?_
            show Goes p e below (T1077.setTop (mkF m 641 #[lv p1, .second, lv p2, .second, lv p3, .second, lv p4, .second, iv p5, iv p6, rv b1, iv z1, iv z2, iv oi, iv oj, iv ch0, iv ch1, iv ch2, iv zB, iv 6, iv 0, rv b17, iv z1, rv b1001, lv p1, .second, lv p2, .second, lv p3, .second, lv p1, .second, rv (own_o w oi), rv b1014, iv ze, .unset] [(.int 0)])) _
            exfalso
            rcases hze with ⟨hz, hC⟩ | ⟨hz, hC⟩
            · first | (rw [hz] at hc1076; exact absurd hc1076 (by decide)) | (revert hS1077; simp [own_same, own_nb hz1, own_nb hz2, own_oinj pne01 pne02 pne12 h_oi h_oj, own_oinj pne01 pne02 pne12 h_oj h_oi, hC]; done)
            · first | (rw [hz] at hc1076; exact absurd hc1076 (by decide)) | (revert hS1077; simp [own_same, own_nb hz1, own_nb hz2, own_oinj pne01 pne02 pne12 h_oi h_oj, own_oinj pne01 pne02 pne12 h_oj h_oi, hC, Ne.symm hC]; done)
          · obtain ⟨rfl, Nq1077, e1077, hS1077⟩ := hQ1077
            have N1077 := Fr.app N1073 Nq1077
            refine Goes.tr st1077 ?_
            refine Goes.by (fun _ kz => XS.iload X1077.here hx rfl (hb hby at_631) rfl (XS.icmpNo X1077.here hx rfl (hb hby at_633) rfl (teq hc1076).2 (XS.iconst X1077.here hx rfl (hb hby at_636) kz))) ?_
            show Goes p e below (T1077.setTop (mkF m 637 #[lv p1, .second, lv p2, .second, lv p3, .second, lv p4, .second, iv p5, iv p6, rv b1, iv z1, iv z2, iv oi, iv oj, iv ch0, iv ch1, iv ch2, iv zB, iv 6, iv 0, rv b17, iv z1, rv b1001, lv p1, .second, lv p2, .second, lv p3, .second, lv p1, .second, rv (own_o w oi), rv b1014, iv ze, .unset] [(.int 1)])) _
            refine Goes.by (fun _ kz => XS.goto X1077.here hx rfl (pc0 := 637) (pc' := 641) rfl (hb hby at_637) (by decide) (by decide) kz) ?_
            show Goes p e below (T1077.setTop (mkF m 641 #[lv p1, .second, lv p2, .second, lv p3, .second, lv p4, .second, iv p5, iv p6, rv b1, iv z1, iv z2, iv oi, iv oj, iv ch0, iv ch1, iv ch2, iv zB, iv 6, iv 0, rv b17, iv z1, rv b1001, lv p1, .second, lv p2, .second, lv p3, .second, lv p1, .second, rv (own_o w oi), rv b1014, iv ze, .unset] [(.int 1)])) _
            obtain ⟨fs, hr, hrun, hended, hW, hsame⟩ := X1077.leave (v := some (.int 1)) (fun h => by rw [Bd.returns] at h; cases h)
            exact ⟨_, _, retN X1077 hx (t := .boolean) Bd.returns (by simp) (hb hby at_641) hr, hrun, hended, _, _, rfl, ⟨rfl, N1077⟩, ⟨_, rfl⟩, hW, hsame.mono (by decide) (by decide)⟩
        · refine Goes.by (fun _ kz => XS.icmpYes X1073.here hx rfl (pc0 := 621) (pc' := 640) rfl (hb hby at_621) rfl (feq hc1076).2 (by decide) (by decide) (XS.iconst X1073.here hx rfl (hb hby at_640) kz)) ?_
          show Goes p e below (T1073.setTop (mkF m 641 #[lv p1, .second, lv p2, .second, lv p3, .second, lv p4, .second, iv p5, iv p6, rv b1, iv z1, iv z2, iv oi, iv oj, iv ch0, iv ch1, iv ch2, iv zB, iv 6, iv 0, rv b17, iv z1, rv b1001, lv p1, .second, lv p2, .second, lv p3, .second, lv p1, .second, rv (own_o w oi), rv b1014, iv ze, .unset] [(.int 0)])) _
          exfalso
          rcases hze with ⟨hz, hC⟩ | ⟨hz, hC⟩
          · first | (rw [hz] at hc1076; exact absurd hc1076 (by decide)) | (revert hS1073; simp [own_same, own_nb hz1, own_nb hz2, own_oinj pne01 pne02 pne12 h_oi h_oj, own_oinj pne01 pne02 pne12 h_oj h_oi, hC]; done)
          · first | (rw [hz] at hc1076; exact absurd hc1076 (by decide)) | (revert hS1073; simp [own_same, own_nb hz1, own_nb hz2, own_oinj pne01 pne02 pne12 h_oi h_oj, own_oinj pne01 pne02 pne12 h_oj h_oi, hC, Ne.symm hC]; done)
    · show Goes p e below (T1053.setTop (mkF m 538 #[lv p1, .second, lv p2, .second, lv p3, .second, lv p4, .second, iv p5, iv p6, rv b1, iv z1, iv z2, iv oi, iv oj, iv ch0, iv ch1, iv ch2, iv zB, iv 6, iv 1, rv b17, iv z1, rv b1001, lv p1, .second, lv p2, .second, lv p3, .second, lv p1, .second, rv (own_o w oi), rv b1014, iv ze, .unset] [])) _
      refine Goes.by (fun _ kz => XS.iload X1053.here hx rfl (hb hby at_538) rfl (XS.iconst X1053.here hx rfl (hb hby at_540) (XS.icmpNo X1053.here hx rfl (hb hby at_541) rfl (teq (by decide : (1 : Int32) = (1 : Int32))).2 kz))) ?_
      show Goes p e below (T1053.setTop (mkF m 544 #[lv p1, .second, lv p2, .second, lv p3, .second, lv p4, .second, iv p5, iv p6, rv b1, iv z1, iv z2, iv oi, iv oj, iv ch0, iv ch1, iv ch2, iv zB, iv 6, iv 1, rv b17, iv z1, rv b1001, lv p1, .second, lv p2, .second, lv p3, .second, lv p1, .second, rv (own_o w oi), rv b1014, iv ze, .unset] [])) _
      refine Goes.by (fun _ kz => XS.aload X1053.here hx rfl (hb hby at_544) rfl rfl (XS.aload X1053.here hx rfl (hb hby at_546) rfl rfl kz)) ?_
      have f1079 := ((f1038.keep Kq1044).keep Kq1053)
      obtain ⟨cq1078, kq1078, q1078a, q1078b, q1078c⟩ := isOf hZ rfl f1079
      obtain ⟨_, _, ⟨T1078, L1078, k1078, n1078⟩, -, X1078, ⟨Lc1078, hQ1078, l1078, y1078, z1078⟩, st1078⟩ := X1053.virtualBack hx (y := (⟨"com/example/killdeer/killdeer/GadgetView", "equals", "(Ljava/lang/Object;)Z"⟩ : MethodName)) (z := (⟨"com/example/killdeer/killdeer/GadgetView", "equals", "(Ljava/lang/Object;)Z"⟩ : MethodName)) hown (mvT hZ (wd hw 61 rfl)) (mvT hZ (wd hw 62 rfl)) (notFace_of_selects (args := #[]) (mvT hZ (wd hw 64 rfl))) (mvT hZ (wd hw 64 rfl)) (mvT hZ (wd hw 63 rfl)) (by decide) (backOf (W := 0) (r8_same l Z a0 hw [] T1053.heap n0 Z1053 b17) hZ (wd hw 65 rfl) (wd hw 12 rfl) (by decide) (by decide)) q1078a q1078c (g := (mkF m 548 #[lv p1, .second, lv p2, .second, lv p3, .second, lv p4, .second, iv p5, iv p6, rv b1, iv z1, iv z2, iv oi, iv oj, iv ch0, iv ch1, iv ch2, iv zB, iv 6, iv 1, rv b17, iv z1, rv b1001, lv p1, .second, lv p2, .second, lv p3, .second, lv p1, .second, rv (own_o w oi), rv b1014, iv ze, .unset] [(.ref b17), (.ref b17)])) rfl (by rw [hml]; rfl) (Steps.refl _) (argsL := [(.ref b17)]) (rest := []) (lenOf pd2 rfl) rfl (by show 2 * 0 + _ ≤ _; exact Nat.le_of_eq rfl) (hb hby at_548) (fun _ _ => ⟨rfl, rfl, (by decide : 9 + 0 ≤ _), (by decide : 33 + 0 ≤ _)⟩)
      dsimp only [Pt.U, Pt.locs, Pt.cells, Pt.slots] at X1078 l1078 y1078 z1078 st1078 hQ1078
      subst l1078 y1078 z1078
      obtain ⟨rfl, Nq1078, e1078⟩ := hQ1078
      have N1078 := Fr.app N1053 Nq1078
      refine Goes.tr st1078 ?_
      show Goes p e below (T1078.setTop (mkF m 551 #[lv p1, .second, lv p2, .second, lv p3, .second, lv p4, .second, iv p5, iv p6, rv b1, iv z1, iv z2, iv oi, iv oj, iv ch0, iv ch1, iv ch2, iv zB, iv 6, iv 1, rv b17, iv z1, rv b1001, lv p1, .second, lv p2, .second, lv p3, .second, lv p1, .second, rv (own_o w oi), rv b1014, iv ze, .unset] [(.int 1)])) _
      obtain ⟨fs, hr, hrun, hended, hW, hsame⟩ := X1078.leave (v := some (.int 1)) (fun h => by rw [Bd.returns] at h; cases h)
      exact ⟨_, _, retN X1078 hx (t := .boolean) Bd.returns (by simp) (hb hby at_551) hr, hrun, hended, _, _, rfl, ⟨rfl, N1078⟩, ⟨_, rfl⟩, hW, hsame.mono (by decide) (by decide)⟩
    · show Goes p e below (T1053.setTop (mkF m 538 #[lv p1, .second, lv p2, .second, lv p3, .second, lv p4, .second, iv p5, iv p6, rv b1, iv z1, iv z2, iv oi, iv oj, iv ch0, iv ch1, iv ch2, iv zB, iv 6, iv 2, rv b17, iv z1, rv b1001, lv p1, .second, lv p2, .second, lv p3, .second, lv p1, .second, rv (own_o w oi), rv b1014, iv ze, .unset] [])) _
      refine Goes.by (fun _ kz => XS.iload X1053.here hx rfl (hb hby at_538) rfl (XS.iconst X1053.here hx rfl (hb hby at_540) (XS.icmpYes X1053.here hx rfl (pc0 := 541) (pc' := 552) rfl (hb hby at_541) rfl (feq (by decide : ¬ ((2 : Int32) = (1 : Int32)))).2 (by decide) (by decide) kz))) ?_
      show Goes p e below (T1053.setTop (mkF m 552 #[lv p1, .second, lv p2, .second, lv p3, .second, lv p4, .second, iv p5, iv p6, rv b1, iv z1, iv z2, iv oi, iv oj, iv ch0, iv ch1, iv ch2, iv zB, iv 6, iv 2, rv b17, iv z1, rv b1001, lv p1, .second, lv p2, .second, lv p3, .second, lv p1, .second, rv (own_o w oi), rv b1014, iv ze, .unset] [])) _
      refine Goes.by (fun _ kz => XS.iload X1053.here hx rfl (hb hby at_552) rfl (XS.iconst X1053.here hx rfl (hb hby at_554) (XS.icmpNo X1053.here hx rfl (hb hby at_555) rfl (teq (by decide : (2 : Int32) = (2 : Int32))).2 kz))) ?_
      show Goes p e below (T1053.setTop (mkF m 558 #[lv p1, .second, lv p2, .second, lv p3, .second, lv p4, .second, iv p5, iv p6, rv b1, iv z1, iv z2, iv oi, iv oj, iv ch0, iv ch1, iv ch2, iv zB, iv 6, iv 2, rv b17, iv z1, rv b1001, lv p1, .second, lv p2, .second, lv p3, .second, lv p1, .second, rv (own_o w oi), rv b1014, iv ze, .unset] [])) _
      refine Goes.by (fun _ kz => XS.aload X1053.here hx rfl (hb hby at_558) rfl rfl (XS.aconstNull X1053.here hx rfl (hb hby at_560) kz)) ?_
      have f1081 := ((f1038.keep Kq1044).keep Kq1053)
      obtain ⟨cq1080, kq1080, q1080a, q1080b, q1080c⟩ := isOf hZ rfl f1081
      obtain ⟨_, _, ⟨T1080, L1080, k1080, n1080⟩, -, X1080, ⟨Lc1080, hQ1080, l1080, y1080, z1080⟩, st1080⟩ := X1053.virtualBack hx (y := (⟨"com/example/killdeer/killdeer/GadgetView", "equals", "(Ljava/lang/Object;)Z"⟩ : MethodName)) (z := (⟨"com/example/killdeer/killdeer/GadgetView", "equals", "(Ljava/lang/Object;)Z"⟩ : MethodName)) hown (mvT hZ (wd hw 61 rfl)) (mvT hZ (wd hw 62 rfl)) (notFace_of_selects (args := #[]) (mvT hZ (wd hw 64 rfl))) (mvT hZ (wd hw 64 rfl)) (mvT hZ (wd hw 63 rfl)) (by decide) (backOf (W := 0) (r8_null l Z a0 hw [] T1053.heap n0 Z1053 b17) hZ (wd hw 65 rfl) (wd hw 12 rfl) (by decide) (by decide)) q1080a q1080c (g := (mkF m 561 #[lv p1, .second, lv p2, .second, lv p3, .second, lv p4, .second, iv p5, iv p6, rv b1, iv z1, iv z2, iv oi, iv oj, iv ch0, iv ch1, iv ch2, iv zB, iv 6, iv 2, rv b17, iv z1, rv b1001, lv p1, .second, lv p2, .second, lv p3, .second, lv p1, .second, rv (own_o w oi), rv b1014, iv ze, .unset] [.null, (.ref b17)])) rfl (by rw [hml]; rfl) (Steps.refl _) (argsL := [.null]) (rest := []) (lenOf pd2 rfl) rfl (by show 2 * 0 + _ ≤ _; exact Nat.le_of_eq rfl) (hb hby at_561) (fun _ _ => ⟨rfl, rfl, (by decide : 9 + 0 ≤ _), (by decide : 33 + 0 ≤ _)⟩)
      dsimp only [Pt.U, Pt.locs, Pt.cells, Pt.slots] at X1080 l1080 y1080 z1080 st1080 hQ1080
      subst l1080 y1080 z1080
      obtain ⟨rfl, Nq1080, e1080⟩ := hQ1080
      have N1080 := Fr.app N1053 Nq1080
      refine Goes.tr st1080 ?_
      refine Goes.by (fun _ kz => XS.ifNo X1080.here hx rfl (hb hby at_564) rfl ((if0 _ _).trans (teq (by decide : (0 : Int32) = (0 : Int32))).2) (XS.iconst X1080.here hx rfl (hb hby at_567) (XS.goto X1080.here hx rfl (pc0 := 568) (pc' := 572) rfl (hb hby at_568) (by decide) (by decide) kz))) ?_
      show Goes p e below (T1080.setTop (mkF m 572 #[lv p1, .second, lv p2, .second, lv p3, .second, lv p4, .second, iv p5, iv p6, rv b1, iv z1, iv z2, iv oi, iv oj, iv ch0, iv ch1, iv ch2, iv zB, iv 6, iv 2, rv b17, iv z1, rv b1001, lv p1, .second, lv p2, .second, lv p3, .second, lv p1, .second, rv (own_o w oi), rv b1014, iv ze, .unset] [(.int 1)])) _
      obtain ⟨fs, hr, hrun, hended, hW, hsame⟩ := X1080.leave (v := some (.int 1)) (fun h => by rw [Bd.returns] at h; cases h)
      exact ⟨_, _, retN X1080 hx (t := .boolean) Bd.returns (by simp) (hb hby at_572) hr, hrun, hended, _, _, rfl, ⟨rfl, N1080⟩, ⟨_, rfl⟩, hW, hsame.mono (by decide) (by decide)⟩
    · show Goes p e below (T1053.setTop (mkF m 538 #[lv p1, .second, lv p2, .second, lv p3, .second, lv p4, .second, iv p5, iv p6, rv b1, iv z1, iv z2, iv oi, iv oj, iv ch0, iv ch1, iv ch2, iv zB, iv 6, iv 3, rv b17, iv z1, rv b1001, lv p1, .second, lv p2, .second, lv p3, .second, lv p1, .second, rv (own_o w oi), rv b1014, iv ze, .unset] [])) _
      refine Goes.by (fun _ kz => XS.iload X1053.here hx rfl (hb hby at_538) rfl (XS.iconst X1053.here hx rfl (hb hby at_540) (XS.icmpYes X1053.here hx rfl (pc0 := 541) (pc' := 552) rfl (hb hby at_541) rfl (feq (by decide : ¬ ((3 : Int32) = (1 : Int32)))).2 (by decide) (by decide) kz))) ?_
      show Goes p e below (T1053.setTop (mkF m 552 #[lv p1, .second, lv p2, .second, lv p3, .second, lv p4, .second, iv p5, iv p6, rv b1, iv z1, iv z2, iv oi, iv oj, iv ch0, iv ch1, iv ch2, iv zB, iv 6, iv 3, rv b17, iv z1, rv b1001, lv p1, .second, lv p2, .second, lv p3, .second, lv p1, .second, rv (own_o w oi), rv b1014, iv ze, .unset] [])) _
      refine Goes.by (fun _ kz => XS.iload X1053.here hx rfl (hb hby at_552) rfl (XS.iconst X1053.here hx rfl (hb hby at_554) (XS.icmpYes X1053.here hx rfl (pc0 := 555) (pc' := 573) rfl (hb hby at_555) rfl (feq (by decide : ¬ ((3 : Int32) = (2 : Int32)))).2 (by decide) (by decide) kz))) ?_
      show Goes p e below (T1053.setTop (mkF m 573 #[lv p1, .second, lv p2, .second, lv p3, .second, lv p4, .second, iv p5, iv p6, rv b1, iv z1, iv z2, iv oi, iv oj, iv ch0, iv ch1, iv ch2, iv zB, iv 6, iv 3, rv b17, iv z1, rv b1001, lv p1, .second, lv p2, .second, lv p3, .second, lv p1, .second, rv (own_o w oi), rv b1014, iv ze, .unset] [])) _
      refine Goes.by (fun _ kz => XS.iload X1053.here hx rfl (hb hby at_573) rfl (XS.iconst X1053.here hx rfl (hb hby at_575) (XS.icmpNo X1053.here hx rfl (hb hby at_576) rfl (teq (by decide : (3 : Int32) = (3 : Int32))).2 kz))) ?_
      have f1083 := ((f1034.keep Kq1044).keep Kq1053)
      have f1084 := ((f1035.keep Kq1044).keep Kq1053)
      have f1085 := ((f1036.keep Kq1044).keep Kq1053)
      have f1086 := ((f1037.keep Kq1044 (ninS ne1022_b1 nin0)).keep Kq1053 (ninS ne1014_b1 nin0))
      have f1087 := ((f1038.keep Kq1044).keep Kq1053)
      have f1088 := ((f1039.keep Kq1044).keep Kq1053)
      have f1089 := ((f1040.keep Kq1044 (ninS ne1022_b26 nin0)).keep Kq1053 (ninS ne1014_b26 nin0))
      have f1090 := ((f1041.keep Kq1044 (ninS ne1022_t44 nin0)).keep Kq1053 (ninS ne1014_t44 nin0))
      have f1091 := ((f1032.keep Kq1044 (ninS ne1022_b1001 nin0)).keep Kq1053 (ninS ne1014_b1001 nin0))
      have f1092 := (f1045.keep Kq1053)
      have f1093 := ((A1022.keep Kq1044).keep Kq1053)
      have f1094 := (gA1044.keep Kq1053 (ninS (Ne.symm net1044_b1014) nin0))
      obtain ⟨T1082, h1082, X1082, e1082, E1082, A1082, D1082, -, st1082⟩ := newO X1053 hx hZ hown (wd hw 13 rfl) (wd hw 14 rfl) (wd hw 15 rfl) rfl (g := (mkF m 579 #[lv p1, .second, lv p2, .second, lv p3, .second, lv p4, .second, iv p5, iv p6, rv b1, iv z1, iv z2, iv oi, iv oj, iv ch0, iv ch1, iv ch2, iv zB, iv 6, iv 3, rv b17, iv z1, rv b1001, lv p1, .second, lv p2, .second, lv p3, .second, lv p1, .second, rv (own_o w oi), rv b1014, iv ze, .unset] [])) rfl (hb hby at_579) (by decide) (by decide)
      obtain ⟨b1082, g1082⟩ : ∃ z, z = T1053.heap.size := ⟨_, rfl⟩
      rw [← g1082] at A1082 D1082 st1082
      have ne1082__w_0_ : (w 0) ≠ b1082 := Nat.ne_of_lt (Nat.lt_of_lt_of_le f1083.lt (Nat.le_of_eq g1082.symm))
      have ne1082__w_1_ : (w 1) ≠ b1082 := Nat.ne_of_lt (Nat.lt_of_lt_of_le f1084.lt (Nat.le_of_eq g1082.symm))
      have ne1082__w_2_ : (w 2) ≠ b1082 := Nat.ne_of_lt (Nat.lt_of_lt_of_le f1085.lt (Nat.le_of_eq g1082.symm))
      have ne1082_b1 : b1 ≠ b1082 := Nat.ne_of_lt (Nat.lt_of_lt_of_le f1086.lt (Nat.le_of_eq g1082.symm))
      have ne1082_b17 : b17 ≠ b1082 := Nat.ne_of_lt (Nat.lt_of_lt_of_le f1087.lt (Nat.le_of_eq g1082.symm))
      have ne1082_b21 : b21 ≠ b1082 := Nat.ne_of_lt (Nat.lt_of_lt_of_le f1088.lt (Nat.le_of_eq g1082.symm))
      have ne1082_b26 : b26 ≠ b1082 := Nat.ne_of_lt (Nat.lt_of_lt_of_le f1089.lt (Nat.le_of_eq g1082.symm))
      have ne1082_t44 : t44 ≠ b1082 := Nat.ne_of_lt (Nat.lt_of_lt_of_le f1090.lt (Nat.le_of_eq g1082.symm))
      have ne1082_b1001 : b1001 ≠ b1082 := Nat.ne_of_lt (Nat.lt_of_lt_of_le f1091.lt (Nat.le_of_eq g1082.symm))
      have ne1082_b1014 : b1014 ≠ b1082 := Nat.ne_of_lt (Nat.lt_of_lt_of_le f1092.lt (Nat.le_of_eq g1082.symm))
      have ne1082_b1022 : b1022 ≠ b1082 := Nat.ne_of_lt (Nat.lt_of_lt_of_le f1093.lt (Nat.le_of_eq g1082.symm))
      have ne1082_t1044 : t1044 ≠ b1082 := Nat.ne_of_lt (Nat.lt_of_lt_of_le f1094.lt (Nat.le_of_eq g1082.symm))
      have g_b1082 : n0 ≤ b1082 := Nat.le_trans Z1053 (Nat.le_of_eq g1082.symm)
      have sz_b1082 : h0.size ≤ b1082 := Nat.le_trans K1053.1 (Nat.le_of_eq g1082.symm)
      have F1082_coder : Fld Z h1082 b1082 "java/lang/String" "coder" "B" (.int 0) := D1082 (Or.inr (wd hw 40 rfl)) (ty := .byte) (by decide)
      have F1082_value : Fld Z h1082 b1082 "java/lang/String" "value" "[B" .null := D1082 (Or.inr (wd hw 42 rfl)) (ty := (.array .byte)) (by decide)
      have K1082 : Keep h0 h1082 [] := Keep.ext K1053 E1082
      have Z1082 : n0 ≤ h1082.size := Nat.le_trans Z1053 E1082.1
      refine Goes.by st1082 ?_
      refine Goes.by (fun _ kz => XS.dup X1082.here hx rfl (hb hby at_582) rfl rfl (XS.iconst X1082.here hx rfl (hb hby at_583) kz)) ?_
      have f1096 := (f1083.ext E1082)
      have f1097 := (f1084.ext E1082)
      have f1098 := (f1085.ext E1082)
      have f1099 := (f1086.ext E1082)
      have f1100 := (f1087.ext E1082)
      have f1101 := (f1088.ext E1082)
      have f1102 := (f1089.ext E1082)
      have f1103 := (f1090.ext E1082)
      have f1104 := (f1091.ext E1082)
      have f1105 := (f1092.ext E1082)
      have f1106 := (f1093.ext E1082)
      have f1107 := (f1094.ext E1082)
      obtain ⟨T1095, h1095, k1095, X1095, e1095, E1095, A1095, st1095⟩ := newP X1082 hx hZ (wd hw 16 rfl) e1082 (g := (mkF m 584 #[lv p1, .second, lv p2, .second, lv p3, .second, lv p4, .second, iv p5, iv p6, rv b1, iv z1, iv z2, iv oi, iv oj, iv ch0, iv ch1, iv ch2, iv zB, iv 6, iv 3, rv b17, iv z1, rv b1001, lv p1, .second, lv p2, .second, lv p3, .second, lv p1, .second, rv (own_o w oi), rv b1014, iv ze, .unset] [(.int 1), (.ref b1082), (.ref b1082)])) rfl (hb hby at_584) rfl (by decide) (cap := 1) (by decide) (by decide) (by decide) (by decide)
      obtain ⟨b1095, g1095⟩ : ∃ z, z = h1082.size := ⟨_, rfl⟩
      rw [← g1095] at A1095 st1095
      have ne1095__w_0_ : (w 0) ≠ b1095 := Nat.ne_of_lt (Nat.lt_of_lt_of_le f1096.lt (Nat.le_of_eq g1095.symm))
      have ne1095__w_1_ : (w 1) ≠ b1095 := Nat.ne_of_lt (Nat.lt_of_lt_of_le f1097.lt (Nat.le_of_eq g1095.symm))
      have ne1095__w_2_ : (w 2) ≠ b1095 := Nat.ne_of_lt (Nat.lt_of_lt_of_le f1098.lt (Nat.le_of_eq g1095.symm))
      have ne1095_b1 : b1 ≠ b1095 := Nat.ne_of_lt (Nat.lt_of_lt_of_le f1099.lt (Nat.le_of_eq g1095.symm))
      have ne1095_b17 : b17 ≠ b1095 := Nat.ne_of_lt (Nat.lt_of_lt_of_le f1100.lt (Nat.le_of_eq g1095.symm))
      have ne1095_b21 : b21 ≠ b1095 := Nat.ne_of_lt (Nat.lt_of_lt_of_le f1101.lt (Nat.le_of_eq g1095.symm))
      have ne1095_b26 : b26 ≠ b1095 := Nat.ne_of_lt (Nat.lt_of_lt_of_le f1102.lt (Nat.le_of_eq g1095.symm))
      have ne1095_t44 : t44 ≠ b1095 := Nat.ne_of_lt (Nat.lt_of_lt_of_le f1103.lt (Nat.le_of_eq g1095.symm))
      have ne1095_b1001 : b1001 ≠ b1095 := Nat.ne_of_lt (Nat.lt_of_lt_of_le f1104.lt (Nat.le_of_eq g1095.symm))
      have ne1095_b1014 : b1014 ≠ b1095 := Nat.ne_of_lt (Nat.lt_of_lt_of_le f1105.lt (Nat.le_of_eq g1095.symm))
      have ne1095_b1022 : b1022 ≠ b1095 := Nat.ne_of_lt (Nat.lt_of_lt_of_le f1106.lt (Nat.le_of_eq g1095.symm))
      have ne1095_t1044 : t1044 ≠ b1095 := Nat.ne_of_lt (Nat.lt_of_lt_of_le f1107.lt (Nat.le_of_eq g1095.symm))
      have ne1095_b1082 : b1082 ≠ b1095 := Nat.ne_of_lt (Nat.lt_of_lt_of_le A1082.lt (Nat.le_of_eq g1095.symm))
      have g_b1095 : n0 ≤ b1095 := Nat.le_trans Z1082 (Nat.le_of_eq g1095.symm)
      have sz_b1095 : h0.size ≤ b1095 := Nat.le_trans K1082.1 (Nat.le_of_eq g1095.symm)
      have V1095 : Arv Z h1095 b1095 k1095 .char (1 : Int32) [(.int 0)] (.int 0) := (Arv.new A1095 (by decide)).pad (pad_rep [] (.int 0) 1)
      have K1095 : Keep h0 h1095 [] := Keep.ext K1082 E1095
      have Z1095 : n0 ≤ h1095.size := Nat.le_trans Z1082 E1095.1
      refine Goes.by st1095 ?_
      refine Goes.by (fun _ kz => XS.dup X1095.here hx rfl (hb hby at_586) rfl rfl (XS.iconst X1095.here hx rfl (hb hby at_587) (XS.iload X1095.here hx rfl (hb hby at_588) rfl kz))) ?_
      obtain ⟨cl1108, Ar1108, Cq1108, Sz1108, Nn1108, Hh1108, Gg1108⟩ := id V1095
      have hin1108 : ¬ ((0 : Int32) < 0 ∨ cl1108.slots.size ≤ ((0 : Int32)).toNatClampNeg) := inb_of Sz1108 ⟨by decide, by decide⟩
      obtain ⟨T1108, h1108, X1108, e1108, W1108, st1108⟩ := stC X1095 hx hZ e1095 Ar1108 (j := (0 : Int32)) hin1108 (g := (mkF m 590 #[lv p1, .second, lv p2, .second, lv p3, .second, lv p4, .second, iv p5, iv p6, rv b1, iv z1, iv z2, iv oi, iv oj, iv ch0, iv ch1, iv ch2, iv zB, iv 6, iv 3, rv b17, iv z1, rv b1001, lv p1, .second, lv p2, .second, lv p3, .second, lv p1, .second, rv (own_o w oi), rv b1014, iv ze, .unset] [(.int ch0), (.int 0), (.ref b1095), (.ref b1095), (.ref b1082), (.ref b1082)])) rfl rfl (hb hby at_590)
      have V1108 : Arv Z h1108 b1095 k1095 .char (1 : Int32) [(.int (nar .char ch0))] (.int 0) := Arv.set Ar1108 Cq1108 Sz1108 Nn1108 Hh1108 Gg1108 (fits_nar_char _) W1108 0 rfl (Nat.le_of_ble_eq_true rfl)
      rw [hn_ch0] at V1108
      have K1108 : Keep h0 h1108 [] := Keep.wr K1095 W1108 (Or.inr sz_b1095)
      have Z1108 : n0 ≤ h1108.size := Nat.le_trans Z1095 (Keep.of_wr W1108).1
      have N1108 := Fr.snoc X1108 N1053 g_b1095
      refine Goes.by st1108 ?_
      show Goes p e below (T1108.setTop (mkF m 591 #[lv p1, .second, lv p2, .second, lv p3, .second, lv p4, .second, iv p5, iv p6, rv b1, iv z1, iv z2, iv oi, iv oj, iv ch0, iv ch1, iv ch2, iv zB, iv 6, iv 3, rv b17, iv z1, rv b1001, lv p1, .second, lv p2, .second, lv p3, .second, lv p1, .second, rv (own_o w oi), rv b1014, iv ze, .unset] [(.ref b1095), (.ref b1082), (.ref b1082)])) _
      have f1109 := (Exa.wr W1108 (A1082.ext E1095))
      have f1110 := (Fld.other W1108 (F1082_value.ext E1095) (Or.inl ne1095_b1082))
      have f1111 := (Fld.other W1108 (F1082_coder.ext E1095) (Or.inl ne1095_b1082))
      have f1112 := (Sta.wr W1108 (((own_staKeep (own_staKeep f1033 Kq1044 (allS (own_nsE A1022) all0)) Kq1053 (allS (own_nsE f1045) all0)).ext E1082).ext E1095))
      have f1113 := (Exa.wr W1108 (f1096.ext E1095))
      have f1114 := (Exa.wr W1108 (f1097.ext E1095))
      have f1115 := (Exa.wr W1108 (f1098.ext E1095))
      have f1116 := ((f1099.ext E1095).other W1108 ne1095_b1)
      have f1117 := (Exa.wr W1108 (f1100.ext E1095))
      have f1118 := (Exa.wr W1108 (f1101.ext E1095))
      have f1119 := ((f1102.ext E1095).other W1108 ne1095_b26)
      have f1120 := ((f1103.ext E1095).other W1108 ne1095_t44)
      have f1121 := ((f1104.ext E1095).other W1108 ne1095_b1001)
      have f1122 := (Exa.wr W1108 (f1105.ext E1095))
      have f1123 := (Exa.wr W1108 (f1106.ext E1095))
      have f1124 := ((f1107.ext E1095).other W1108 ne1095_t1044)
      have hp1125 : ∀ c ∈ ([ch0] : List Int32), ¬ c < 0 ∧ ¬ (255 : Int32) < c := by
        intro c hc; simp only [List.mem_cons, List.not_mem_nil, or_false] at hc
        rw [hc]; exact hb_ch0
      have hcd1125 : StrChars.Road.CodA ([ch0] : List Int32) 0 (1 : Int32) ((([ch0] : List Int32).map (fun c => c.toInt8.toInt32)).map Value.int) := StrChars.Road.codOf (n := 1) rfl (fun c hc => (hp1125 c hc).2)
      have hbd1125 := own_up _ hp1125
      obtain ⟨_, _, ⟨T1126, L1126, k1126, n1126⟩, -, X1126, ⟨Lc1126, hQ1126, l1126, y1126, z1126⟩, st1126⟩ := X1108.specialBack hx (y := (⟨"java/lang/String", "<init>", "([C)V"⟩ : MethodName)) rfl hown (mvT hZ (wd hw 17 rfl)) (mvT hZ (wd hw 18 rfl)) (mvT hZ (wd hw 19 rfl)) (by decide) (StrChars.Road.backV (W := 1) hZ hws (kI := 4) (wd hw 14 rfl) (cs := ([ch0] : List Int32)) (bs := (([ch0] : List Int32).map (fun c => c.toInt8.toInt32))) (n := 1) g_b1082 Z1108 f1109 f1110 f1111 V1108 f1112 hzc rfl rfl (by decide) (by decide) hp1125 rfl (by decide) (by decide)) (g := (mkF m 591 #[lv p1, .second, lv p2, .second, lv p3, .second, lv p4, .second, iv p5, iv p6, rv b1, iv z1, iv z2, iv oi, iv oj, iv ch0, iv ch1, iv ch2, iv zB, iv 6, iv 3, rv b17, iv z1, rv b1001, lv p1, .second, lv p2, .second, lv p3, .second, lv p1, .second, rv (own_o w oi), rv b1014, iv ze, .unset] [(.ref b1095), (.ref b1082), (.ref b1082)])) rfl (by rw [hml]; rfl) (Steps.refl _) (a := b1082) (argsL := [(.ref b1095)]) (rest := [(.ref b1082)]) (lenOf pd0 rfl) rfl (by show 2 * 0 + _ ≤ _; exact Nat.le_of_eq rfl) (hb hby at_591) (fun _ _ => ⟨rfl, e1108, (by decide : 11 + 1 ≤ _), (by decide : 38 + 1 ≤ _)⟩)
      dsimp only [Pt.U, Pt.locs, Pt.cells, Pt.slots] at X1126 l1126 y1126 z1126 st1126 hQ1126
      subst l1126 y1126 z1126
      obtain ⟨rfl, Nq1126, Kq1126, gE1126, gC1126, t1126, kb1126, u1_1126, u2_1126, u3_1126, gV1126, gA1126⟩ := hQ1126
      have K1126 : Keep h0 T1126.heap [] := Keep.trans K1108 Kq1126 (allS (Or.inr sz_b1082) all0)
      have Z1126 : n0 ≤ T1126.heap.size := Nat.le_trans Z1108 Kq1126.1
      have net1126__w_0_ : (w 0) ≠ t1126 := Nat.ne_of_lt (Nat.lt_of_lt_of_le f1113.lt u2_1126)
      have net1126__w_1_ : (w 1) ≠ t1126 := Nat.ne_of_lt (Nat.lt_of_lt_of_le f1114.lt u2_1126)
      have net1126__w_2_ : (w 2) ≠ t1126 := Nat.ne_of_lt (Nat.lt_of_lt_of_le f1115.lt u2_1126)
      have net1126_b1 : b1 ≠ t1126 := Nat.ne_of_lt (Nat.lt_of_lt_of_le f1116.lt u2_1126)
      have net1126_b17 : b17 ≠ t1126 := Nat.ne_of_lt (Nat.lt_of_lt_of_le f1117.lt u2_1126)
      have net1126_b21 : b21 ≠ t1126 := Nat.ne_of_lt (Nat.lt_of_lt_of_le f1118.lt u2_1126)
      have net1126_b26 : b26 ≠ t1126 := Nat.ne_of_lt (Nat.lt_of_lt_of_le f1119.lt u2_1126)
      have net1126_t44 : t44 ≠ t1126 := Nat.ne_of_lt (Nat.lt_of_lt_of_le f1120.lt u2_1126)
      have net1126_b1001 : b1001 ≠ t1126 := Nat.ne_of_lt (Nat.lt_of_lt_of_le f1121.lt u2_1126)
      have net1126_b1014 : b1014 ≠ t1126 := Nat.ne_of_lt (Nat.lt_of_lt_of_le f1122.lt u2_1126)
      have net1126_b1022 : b1022 ≠ t1126 := Nat.ne_of_lt (Nat.lt_of_lt_of_le f1123.lt u2_1126)
      have net1126_t1044 : t1044 ≠ t1126 := Nat.ne_of_lt (Nat.lt_of_lt_of_le f1124.lt u2_1126)
      have net1126_b1082 : b1082 ≠ t1126 := Nat.ne_of_lt (Nat.lt_of_lt_of_le f1109.lt u2_1126)
      have net1126_b1095 : b1095 ≠ t1126 := Nat.ne_of_lt (Nat.lt_of_lt_of_le V1108.lt u2_1126)
      have g_t1126 : n0 ≤ t1126 := Nat.le_trans Z1108 u2_1126
      have sz_t1126 : h0.size ≤ t1126 := Nat.le_trans K1108.1 u2_1126
      have N1126 := Fr.app N1108 Nq1126
      refine Goes.tr st1126 ?_
      refine Goes.by (fun _ kz => XS.astore X1126.here hx rfl (hb hby at_594) rfl rfl rfl (XS.aload X1126.here hx rfl (hb hby at_596) rfl rfl (XS.aload X1126.here hx rfl (hb hby at_598) rfl rfl kz))) ?_
      have f1127 := (f1109.keep Kq1126)
      have f1129 := (f1117.keep Kq1126)
      obtain ⟨cq1128, kq1128, q1128a, q1128b, q1128c⟩ := isOf hZ rfl f1129
      obtain ⟨_, _, ⟨T1128, L1128, k1128, n1128⟩, -, X1128, ⟨Lc1128, hQ1128, l1128, y1128, z1128⟩, st1128⟩ := X1126.virtualBack hx (y := (⟨"com/example/killdeer/killdeer/GadgetView", "equals", "(Ljava/lang/Object;)Z"⟩ : MethodName)) (z := (⟨"com/example/killdeer/killdeer/GadgetView", "equals", "(Ljava/lang/Object;)Z"⟩ : MethodName)) hown (mvT hZ (wd hw 61 rfl)) (mvT hZ (wd hw 62 rfl)) (notFace_of_selects (args := #[]) (mvT hZ (wd hw 64 rfl))) (mvT hZ (wd hw 64 rfl)) (mvT hZ (wd hw 63 rfl)) (by decide) (backOf (W := 0) (r8_str l Z a0 hw [] T1126.heap n0 Z1126 b17 b1082 f1127 ne1082_b17) hZ (wd hw 65 rfl) (wd hw 12 rfl) (by decide) (by decide)) q1128a q1128c (g := (mkF m 600 #[lv p1, .second, lv p2, .second, lv p3, .second, lv p4, .second, iv p5, iv p6, rv b1, iv z1, iv z2, iv oi, iv oj, iv ch0, iv ch1, iv ch2, iv zB, iv 6, iv 3, rv b17, iv z1, rv b1001, lv p1, .second, lv p2, .second, lv p3, .second, lv p1, .second, rv (own_o w oi), rv b1014, iv ze, rv b1082] [(.ref b1082), (.ref b17)])) rfl (by rw [hml]; rfl) (Steps.refl _) (argsL := [(.ref b1082)]) (rest := []) (lenOf pd2 rfl) rfl (by show 2 * 0 + _ ≤ _; exact Nat.le_of_eq rfl) (hb hby at_600) (fun _ _ => ⟨rfl, rfl, (by decide : 12 + 0 ≤ _), (by decide : 39 + 0 ≤ _)⟩)
      dsimp only [Pt.U, Pt.locs, Pt.cells, Pt.slots] at X1128 l1128 y1128 z1128 st1128 hQ1128
      subst l1128 y1128 z1128
      obtain ⟨rfl, Nq1128, e1128⟩ := hQ1128
      have N1128 := Fr.app N1126 Nq1128
      refine Goes.tr st1128 ?_
      refine Goes.by (fun _ kz => XS.ifNo X1128.here hx rfl (hb hby at_603) rfl ((if0 _ _).trans (teq (by decide : (0 : Int32) = (0 : Int32))).2) (XS.iconst X1128.here hx rfl (hb hby at_606) (XS.goto X1128.here hx rfl (pc0 := 607) (pc' := 611) rfl (hb hby at_607) (by decide) (by decide) kz))) ?_
      show Goes p e below (T1128.setTop (mkF m 611 #[lv p1, .second, lv p2, .second, lv p3, .second, lv p4, .second, iv p5, iv p6, rv b1, iv z1, iv z2, iv oi, iv oj, iv ch0, iv ch1, iv ch2, iv zB, iv 6, iv 3, rv b17, iv z1, rv b1001, lv p1, .second, lv p2, .second, lv p3, .second, lv p1, .second, rv (own_o w oi), rv b1014, iv ze, rv b1082] [(.int 1)])) _
      obtain ⟨fs, hr, hrun, hended, hW, hsame⟩ := X1128.leave (v := some (.int 1)) (fun h => by rw [Bd.returns] at h; cases h)
      exact ⟨_, _, retN X1128 hx (t := .boolean) Bd.returns (by simp) (hb hby at_611) hr, hrun, hended, _, _, rfl, ⟨rfl, N1128⟩, ⟨_, rfl⟩, hW, hsame.mono (by decide) (by decide)⟩
  · show Goes p e below (T81.setTop (mkF m 186 #[lv p1, .second, lv p2, .second, lv p3, .second, lv p4, .second, iv p5, iv p6, rv b1, iv z1, iv z2, iv oi, iv oj, iv ch0, iv ch1, iv ch2, iv zB, iv 7, iv (((p6.toUInt32 >>> ((4 : Int32) &&& 31).toUInt32).toInt32) &&& (3 : Int32)), rv b17, .unset, .unset, .unset, .unset, .unset, .unset, .unset, .unset, .unset, .unset, .unset, .unset, .unset, .unset] [])) _
    refine Goes.by (fun _ kz => XS.iload X81.here hx rfl (hb hby at_186) rfl (XS.iconst X81.here hx rfl (hb hby at_188) (XS.icmpYes X81.here hx rfl (pc0 := 189) (pc' := 197) rfl (hb hby at_189) rfl (feq (by decide : ¬ ((7 : Int32) = (1 : Int32)))).2 (by decide) (by decide) kz))) ?_
    show Goes p e below (T81.setTop (mkF m 197 #[lv p1, .second, lv p2, .second, lv p3, .second, lv p4, .second, iv p5, iv p6, rv b1, iv z1, iv z2, iv oi, iv oj, iv ch0, iv ch1, iv ch2, iv zB, iv 7, iv (((p6.toUInt32 >>> ((4 : Int32) &&& 31).toUInt32).toInt32) &&& (3 : Int32)), rv b17, .unset, .unset, .unset, .unset, .unset, .unset, .unset, .unset, .unset, .unset, .unset, .unset, .unset, .unset] [])) _
    refine Goes.by (fun _ kz => XS.iload X81.here hx rfl (hb hby at_197) rfl (XS.istore X81.here hx rfl (hb hby at_199) rfl rfl (XS.iload X81.here hx rfl (hb hby at_201) rfl kz))) ?_
    show Goes p e below (T81.setTop (mkF m 203 #[lv p1, .second, lv p2, .second, lv p3, .second, lv p4, .second, iv p5, iv p6, rv b1, iv z1, iv z2, iv oi, iv oj, iv ch0, iv ch1, iv ch2, iv zB, iv 7, iv (((p6.toUInt32 >>> ((4 : Int32) &&& 31).toUInt32).toInt32) &&& (3 : Int32)), rv b17, iv z1, .unset, .unset, .unset, .unset, .unset, .unset, .unset, .unset, .unset, .unset, .unset, .unset, .unset] [(.int 7)])) _
    refine Goes.by (fun _ kz => XS.iconst X81.here hx rfl (hb hby at_203) (XS.icmpYes X81.here hx rfl (pc0 := 204) (pc' := 243) rfl (hb hby at_204) rfl (feq (by decide : ¬ ((7 : Int32) = (2 : Int32)))).2 (by decide) (by decide) (XS.iconst X81.here hx rfl (hb hby at_243) kz))) ?_
    have f1131 := ((f38.keep Kq44).keep Kq81)
    have f1132 := ((f39.keep Kq44).keep Kq81)
    have f1133 := ((f40.keep Kq44).keep Kq81)
    have f1134 := (f46.keep Kq81 (ninS ne17_b1 nin0))
    have f1135 := (f73.keep Kq81)
    have f1136 := ((f34.keep Kq44).keep Kq81)
    have f1137 := ((V33.keep Kq44 (ninS (Ne.symm ne26_b21) nin0)).keep Kq81 (ninS (Ne.symm ne26_b17) nin0))
    have f1138 := (gA44.keep Kq81 (ninS (Ne.symm net44_b17) nin0))
    obtain ⟨T1130, h1130, k1130, X1130, e1130, E1130, A1130, st1130⟩ := newP X81 hx hZ (wd hw 16 rfl) rfl (g := (mkF m 244 #[lv p1, .second, lv p2, .second, lv p3, .second, lv p4, .second, iv p5, iv p6, rv b1, iv z1, iv z2, iv oi, iv oj, iv ch0, iv ch1, iv ch2, iv zB, iv 7, iv (((p6.toUInt32 >>> ((4 : Int32) &&& 31).toUInt32).toInt32) &&& (3 : Int32)), rv b17, iv z1, .unset, .unset, .unset, .unset, .unset, .unset, .unset, .unset, .unset, .unset, .unset, .unset, .unset] [(.int 2)])) rfl (hb hby at_244) rfl (by decide) (cap := 2) (by decide) (by decide) (by decide) (by decide)
    obtain ⟨b1130, g1130⟩ : ∃ z, z = T81.heap.size := ⟨_, rfl⟩
    rw [← g1130] at A1130 st1130
    have ne1130__w_0_ : (w 0) ≠ b1130 := Nat.ne_of_lt (Nat.lt_of_lt_of_le f1131.lt (Nat.le_of_eq g1130.symm))
    have ne1130__w_1_ : (w 1) ≠ b1130 := Nat.ne_of_lt (Nat.lt_of_lt_of_le f1132.lt (Nat.le_of_eq g1130.symm))
    have ne1130__w_2_ : (w 2) ≠ b1130 := Nat.ne_of_lt (Nat.lt_of_lt_of_le f1133.lt (Nat.le_of_eq g1130.symm))
    have ne1130_b1 : b1 ≠ b1130 := Nat.ne_of_lt (Nat.lt_of_lt_of_le f1134.lt (Nat.le_of_eq g1130.symm))
    have ne1130_b17 : b17 ≠ b1130 := Nat.ne_of_lt (Nat.lt_of_lt_of_le f1135.lt (Nat.le_of_eq g1130.symm))
    have ne1130_b21 : b21 ≠ b1130 := Nat.ne_of_lt (Nat.lt_of_lt_of_le f1136.lt (Nat.le_of_eq g1130.symm))
    have ne1130_b26 : b26 ≠ b1130 := Nat.ne_of_lt (Nat.lt_of_lt_of_le f1137.lt (Nat.le_of_eq g1130.symm))
    have ne1130_t44 : t44 ≠ b1130 := Nat.ne_of_lt (Nat.lt_of_lt_of_le f1138.lt (Nat.le_of_eq g1130.symm))
    have g_b1130 : n0 ≤ b1130 := Nat.le_trans Z81 (Nat.le_of_eq g1130.symm)
    have sz_b1130 : h0.size ≤ b1130 := Nat.le_trans K81.1 (Nat.le_of_eq g1130.symm)
    have V1130 : Arv Z h1130 b1130 k1130 .char (2 : Int32) [(.int 0), (.int 0)] (.int 0) := (Arv.new A1130 (by decide)).pad (pad_rep [] (.int 0) 2)
    have K1130 : Keep h0 h1130 [] := Keep.ext K81 E1130
    have Z1130 : n0 ≤ h1130.size := Nat.le_trans Z81 E1130.1
    refine Goes.by st1130 ?_
    refine Goes.by (fun _ kz => XS.dup X1130.here hx rfl (hb hby at_246) rfl rfl (XS.iconst X1130.here hx rfl (hb hby at_247) (XS.iload X1130.here hx rfl (hb hby at_248) rfl kz))) ?_
    obtain ⟨cl1139, Ar1139, Cq1139, Sz1139, Nn1139, Hh1139, Gg1139⟩ := id V1130
    have hin1139 : ¬ ((0 : Int32) < 0 ∨ cl1139.slots.size ≤ ((0 : Int32)).toNatClampNeg) := inb_of Sz1139 ⟨by decide, by decide⟩
    obtain ⟨T1139, h1139, X1139, e1139, W1139, st1139⟩ := stC X1130 hx hZ e1130 Ar1139 (j := (0 : Int32)) hin1139 (g := (mkF m 250 #[lv p1, .second, lv p2, .second, lv p3, .second, lv p4, .second, iv p5, iv p6, rv b1, iv z1, iv z2, iv oi, iv oj, iv ch0, iv ch1, iv ch2, iv zB, iv 7, iv (((p6.toUInt32 >>> ((4 : Int32) &&& 31).toUInt32).toInt32) &&& (3 : Int32)), rv b17, iv z1, .unset, .unset, .unset, .unset, .unset, .unset, .unset, .unset, .unset, .unset, .unset, .unset, .unset] [(.int ch0), (.int 0), (.ref b1130), (.ref b1130)])) rfl rfl (hb hby at_250)
    have V1139 : Arv Z h1139 b1130 k1130 .char (2 : Int32) [(.int (nar .char ch0)), (.int 0)] (.int 0) := Arv.set Ar1139 Cq1139 Sz1139 Nn1139 Hh1139 Gg1139 (fits_nar_char _) W1139 0 rfl (Nat.le_of_ble_eq_true rfl)
    rw [hn_ch0] at V1139
    have K1139 : Keep h0 h1139 [] := Keep.wr K1130 W1139 (Or.inr sz_b1130)
    have Z1139 : n0 ≤ h1139.size := Nat.le_trans Z1130 (Keep.of_wr W1139).1
    have N1139 := Fr.snoc X1139 N81 g_b1130
    refine Goes.by st1139 ?_
    refine Goes.by (fun _ kz => XS.dup X1139.here hx rfl (hb hby at_251) rfl rfl (XS.iconst X1139.here hx rfl (hb hby at_252) (XS.iload X1139.here hx rfl (hb hby at_253) rfl kz))) ?_
    obtain ⟨cl1140, Ar1140, Cq1140, Sz1140, Nn1140, Hh1140, Gg1140⟩ := id V1139
    have hin1140 : ¬ ((1 : Int32) < 0 ∨ cl1140.slots.size ≤ ((1 : Int32)).toNatClampNeg) := inb_of Sz1140 ⟨by decide, by decide⟩
    obtain ⟨T1140, h1140, X1140, e1140, W1140, st1140⟩ := stC X1139 hx hZ e1139 Ar1140 (j := (1 : Int32)) hin1140 (g := (mkF m 255 #[lv p1, .second, lv p2, .second, lv p3, .second, lv p4, .second, iv p5, iv p6, rv b1, iv z1, iv z2, iv oi, iv oj, iv ch0, iv ch1, iv ch2, iv zB, iv 7, iv (((p6.toUInt32 >>> ((4 : Int32) &&& 31).toUInt32).toInt32) &&& (3 : Int32)), rv b17, iv z1, .unset, .unset, .unset, .unset, .unset, .unset, .unset, .unset, .unset, .unset, .unset, .unset, .unset] [(.int ch1), (.int 1), (.ref b1130), (.ref b1130)])) rfl rfl (hb hby at_255)
    have V1140 : Arv Z h1140 b1130 k1130 .char (2 : Int32) [(.int ch0), (.int (nar .char ch1))] (.int 0) := Arv.set Ar1140 Cq1140 Sz1140 Nn1140 Hh1140 Gg1140 (fits_nar_char _) W1140 1 rfl (Nat.le_of_ble_eq_true rfl)
    rw [hn_ch1] at V1140
    have K1140 : Keep h0 h1140 [] := Keep.wr K1139 W1140 (Or.inr sz_b1130)
    have Z1140 : n0 ≤ h1140.size := Nat.le_trans Z1139 (Keep.of_wr W1140).1
    have N1140 := Fr.snoc X1140 N1139 g_b1130
    refine Goes.by st1140 ?_
    refine Goes.by (fun _ kz => XS.astore X1140.here hx rfl (hb hby at_256) rfl rfl rfl (XS.iload X1140.here hx rfl (hb hby at_258) rfl (XS.iconst X1140.here hx rfl (hb hby at_260) kz))) ?_
    show Goes p e below (T1140.setTop (mkF m 261 #[lv p1, .second, lv p2, .second, lv p3, .second, lv p4, .second, iv p5, iv p6, rv b1, iv z1, iv z2, iv oi, iv oj, iv ch0, iv ch1, iv ch2, iv zB, iv 7, iv (((p6.toUInt32 >>> ((4 : Int32) &&& 31).toUInt32).toInt32) &&& (3 : Int32)), rv b17, iv z1, rv b1130, .unset, .unset, .unset, .unset, .unset, .unset, .unset, .unset, .unset, .unset, .unset, .unset] [(.int 3), (.int 7)])) _
    refine Goes.by (fun _ kz => XS.icmpYes X1140.here hx rfl (pc0 := 261) (pc' := 269) rfl (hb hby at_261) rfl (feq (by decide : ¬ ((7 : Int32) = (3 : Int32)))).2 (by decide) (by decide) (XS.lloadN X1140.here hx rfl (hb hby at_269) rfl (XS.lstore X1140.here hx rfl (hb hby at_270) rfl rfl kz))) ?_
    show Goes p e below (T1140.setTop (mkF m 272 #[lv p1, .second, lv p2, .second, lv p3, .second, lv p4, .second, iv p5, iv p6, rv b1, iv z1, iv z2, iv oi, iv oj, iv ch0, iv ch1, iv ch2, iv zB, iv 7, iv (((p6.toUInt32 >>> ((4 : Int32) &&& 31).toUInt32).toInt32) &&& (3 : Int32)), rv b17, iv z1, rv b1130, lv p1, .second, .unset, .unset, .unset, .unset, .unset, .unset, .unset, .unset, .unset, .unset] [])) _
    refine Goes.by (fun _ kz => XS.iload X1140.here hx rfl (hb hby at_272) rfl (XS.iconst X1140.here hx rfl (hb hby at_274) (XS.icmpYes X1140.here hx rfl (pc0 := 275) (pc' := 283) rfl (hb hby at_275) rfl (feq (by decide : ¬ ((7 : Int32) = (4 : Int32)))).2 (by decide) (by decide) kz))) ?_
    show Goes p e below (T1140.setTop (mkF m 283 #[lv p1, .second, lv p2, .second, lv p3, .second, lv p4, .second, iv p5, iv p6, rv b1, iv z1, iv z2, iv oi, iv oj, iv ch0, iv ch1, iv ch2, iv zB, iv 7, iv (((p6.toUInt32 >>> ((4 : Int32) &&& 31).toUInt32).toInt32) &&& (3 : Int32)), rv b17, iv z1, rv b1130, lv p1, .second, .unset, .unset, .unset, .unset, .unset, .unset, .unset, .unset, .unset, .unset] [])) _
    refine Goes.by (fun _ kz => XS.lloadN X1140.here hx rfl (hb hby at_283) rfl (XS.lstore X1140.here hx rfl (hb hby at_284) rfl rfl (XS.iload X1140.here hx rfl (hb hby at_286) rfl kz))) ?_
    show Goes p e below (T1140.setTop (mkF m 288 #[lv p1, .second, lv p2, .second, lv p3, .second, lv p4, .second, iv p5, iv p6, rv b1, iv z1, iv z2, iv oi, iv oj, iv ch0, iv ch1, iv ch2, iv zB, iv 7, iv (((p6.toUInt32 >>> ((4 : Int32) &&& 31).toUInt32).toInt32) &&& (3 : Int32)), rv b17, iv z1, rv b1130, lv p1, .second, lv p2, .second, .unset, .unset, .unset, .unset, .unset, .unset, .unset, .unset] [(.int 7)])) _
    refine Goes.by (fun _ kz => XS.iconst X1140.here hx rfl (hb hby at_288) (XS.icmpYes X1140.here hx rfl (pc0 := 289) (pc' := 297) rfl (hb hby at_289) rfl (feq (by decide : ¬ ((7 : Int32) = (5 : Int32)))).2 (by decide) (by decide) (XS.lload X1140.here hx rfl (hb hby at_297) rfl kz))) ?_
    show Goes p e below (T1140.setTop (mkF m 299 #[lv p1, .second, lv p2, .second, lv p3, .second, lv p4, .second, iv p5, iv p6, rv b1, iv z1, iv z2, iv oi, iv oj, iv ch0, iv ch1, iv ch2, iv zB, iv 7, iv (((p6.toUInt32 >>> ((4 : Int32) &&& 31).toUInt32).toInt32) &&& (3 : Int32)), rv b17, iv z1, rv b1130, lv p1, .second, lv p2, .second, .unset, .unset, .unset, .unset, .unset, .unset, .unset, .unset] [(.long p3)])) _
    refine Goes.by (fun _ kz => XS.lstore X1140.here hx rfl (hb hby at_299) rfl rfl (XS.iload X1140.here hx rfl (hb hby at_301) rfl (XS.bipush X1140.here hx rfl (hb hby at_303) kz))) ?_
    show Goes p e below (T1140.setTop (mkF m 305 #[lv p1, .second, lv p2, .second, lv p3, .second, lv p4, .second, iv p5, iv p6, rv b1, iv z1, iv z2, iv oi, iv oj, iv ch0, iv ch1, iv ch2, iv zB, iv 7, iv (((p6.toUInt32 >>> ((4 : Int32) &&& 31).toUInt32).toInt32) &&& (3 : Int32)), rv b17, iv z1, rv b1130, lv p1, .second, lv p2, .second, lv p3, .second, .unset, .unset, .unset, .unset, .unset, .unset] [(.int 6), (.int 7)])) _
    refine Goes.by (fun _ kz => XS.icmpYes X1140.here hx rfl (pc0 := 305) (pc' := 312) rfl (hb hby at_305) rfl (feq (by decide : ¬ ((7 : Int32) = (6 : Int32)))).2 (by decide) (by decide) (XS.lload X1140.here hx rfl (hb hby at_312) rfl (XS.lstore X1140.here hx rfl (hb hby at_314) rfl rfl kz))) ?_
    show Goes p e below (T1140.setTop (mkF m 316 #[lv p1, .second, lv p2, .second, lv p3, .second, lv p4, .second, iv p5, iv p6, rv b1, iv z1, iv z2, iv oi, iv oj, iv ch0, iv ch1, iv ch2, iv zB, iv 7, iv (((p6.toUInt32 >>> ((4 : Int32) &&& 31).toUInt32).toInt32) &&& (3 : Int32)), rv b17, iv z1, rv b1130, lv p1, .second, lv p2, .second, lv p3, .second, lv p4, .second, .unset, .unset, .unset, .unset] [])) _
    refine Goes.by (fun _ kz => XS.iload X1140.here hx rfl (hb hby at_316) rfl (XS.bipush X1140.here hx rfl (hb hby at_318) (XS.icmpNo X1140.here hx rfl (hb hby at_320) rfl (teq (by decide : (7 : Int32) = (7 : Int32))).2 kz))) ?_
    show Goes p e below (T1140.setTop (mkF m 323 #[lv p1, .second, lv p2, .second, lv p3, .second, lv p4, .second, iv p5, iv p6, rv b1, iv z1, iv z2, iv oi, iv oj, iv ch0, iv ch1, iv ch2, iv zB, iv 7, iv (((p6.toUInt32 >>> ((4 : Int32) &&& 31).toUInt32).toInt32) &&& (3 : Int32)), rv b17, iv z1, rv b1130, lv p1, .second, lv p2, .second, lv p3, .second, lv p4, .second, .unset, .unset, .unset, .unset] [])) _
    refine Goes.by (fun _ kz => XS.aload X1140.here hx rfl (hb hby at_323) rfl rfl (XS.iload X1140.here hx rfl (hb hby at_325) rfl kz)) ?_
    show Goes p e below (T1140.setTop (mkF m 327 #[lv p1, .second, lv p2, .second, lv p3, .second, lv p4, .second, iv p5, iv p6, rv b1, iv z1, iv z2, iv oi, iv oj, iv ch0, iv ch1, iv ch2, iv zB, iv 7, iv (((p6.toUInt32 >>> ((4 : Int32) &&& 31).toUInt32).toInt32) &&& (3 : Int32)), rv b17, iv z1, rv b1130, lv p1, .second, lv p2, .second, lv p3, .second, lv p4, .second, .unset, .unset, .unset, .unset] [(.int oj), (.ref b1)])) _
    have f1142 := (((f1134.ext E1130).other W1139 ne1130_b1).other W1140 ne1130_b1)
    obtain ⟨cl1141, Ar1141, Cq1141, Sz1141, Nn1141, Hh1141, Gg1141⟩ := id f1142
    have hin1141 : ¬ (oj < 0 ∨ cl1141.slots.size ≤ (oj).toNatClampNeg) := inb_of Sz1141 (own_i3 h_oj)
    have hat1141 : cl1141.slots[(oj).toNatClampNeg]? = some (.ref (own_o w oj)) := Has.at Hh1141 hin1141 (by rcases h_oj with h | h | h <;> rw [h] <;> rfl)
    refine Goes.by (fun _ kz => X1140.aaload hx (j := oj) (v := (.ref (own_o w oj))) (by rw [e1140]; exact Ar1141.1) (State.isArrayOf_alike hZ.alike Ar1141.2.1) rfl Ar1141.2.2 hin1141 hat1141 (g := (mkF m 327 #[lv p1, .second, lv p2, .second, lv p3, .second, lv p4, .second, iv p5, iv p6, rv b1, iv z1, iv z2, iv oi, iv oj, iv ch0, iv ch1, iv ch2, iv zB, iv 7, iv (((p6.toUInt32 >>> ((4 : Int32) &&& 31).toUInt32).toInt32) &&& (3 : Int32)), rv b17, iv z1, rv b1130, lv p1, .second, lv p2, .second, lv p3, .second, lv p4, .second, .unset, .unset, .unset, .unset] [(.int oj), (.ref b1)])) rfl rfl (hb hby at_327) _ (XS.goto X1140.here hx rfl (pc0 := 328) (pc' := 336) rfl (hb hby at_328) (by decide) (by decide) (XS.astore X1140.here hx rfl (hb hby at_336) rfl rfl rfl kz))) ?_
    have f1144 := (Exa.wr W1140 (Exa.wr W1139 (f1131.ext E1130)))
    have f1145 := (Exa.wr W1140 (Exa.wr W1139 (f1132.ext E1130)))
    have f1146 := (Exa.wr W1140 (Exa.wr W1139 (f1133.ext E1130)))
    have f1147 := (Exa.wr W1140 (Exa.wr W1139 (f1135.ext E1130)))
    have f1148 := (Exa.wr W1140 (Exa.wr W1139 (f1136.ext E1130)))
    have f1149 := (((f1137.ext E1130).other W1139 ne1130_b26).other W1140 ne1130_b26)
    have f1150 := (((f1138.ext E1130).other W1139 ne1130_t44).other W1140 ne1130_t44)
    obtain ⟨T1143, h1143, X1143, e1143, E1143, A1143, D1143, -, st1143⟩ := newO X1140 hx hZ hown (wd hw 10 rfl) (wd hw 11 rfl) (wd hw 12 rfl) e1140 (g := (mkF m 338 #[lv p1, .second, lv p2, .second, lv p3, .second, lv p4, .second, iv p5, iv p6, rv b1, iv z1, iv z2, iv oi, iv oj, iv ch0, iv ch1, iv ch2, iv zB, iv 7, iv (((p6.toUInt32 >>> ((4 : Int32) &&& 31).toUInt32).toInt32) &&& (3 : Int32)), rv b17, iv z1, rv b1130, lv p1, .second, lv p2, .second, lv p3, .second, lv p4, .second, rv (own_o w oj), .unset, .unset, .unset] [])) rfl (hb hby at_338) (by decide) (by decide)
    obtain ⟨b1143, g1143⟩ : ∃ z, z = h1140.size := ⟨_, rfl⟩
    rw [← g1143] at A1143 D1143 st1143
    have ne1143__w_0_ : (w 0) ≠ b1143 := Nat.ne_of_lt (Nat.lt_of_lt_of_le f1144.lt (Nat.le_of_eq g1143.symm))
    have ne1143__w_1_ : (w 1) ≠ b1143 := Nat.ne_of_lt (Nat.lt_of_lt_of_le f1145.lt (Nat.le_of_eq g1143.symm))
    have ne1143__w_2_ : (w 2) ≠ b1143 := Nat.ne_of_lt (Nat.lt_of_lt_of_le f1146.lt (Nat.le_of_eq g1143.symm))
    have ne1143_b1 : b1 ≠ b1143 := Nat.ne_of_lt (Nat.lt_of_lt_of_le f1142.lt (Nat.le_of_eq g1143.symm))
    have ne1143_b17 : b17 ≠ b1143 := Nat.ne_of_lt (Nat.lt_of_lt_of_le f1147.lt (Nat.le_of_eq g1143.symm))
    have ne1143_b21 : b21 ≠ b1143 := Nat.ne_of_lt (Nat.lt_of_lt_of_le f1148.lt (Nat.le_of_eq g1143.symm))
    have ne1143_b26 : b26 ≠ b1143 := Nat.ne_of_lt (Nat.lt_of_lt_of_le f1149.lt (Nat.le_of_eq g1143.symm))
    have ne1143_t44 : t44 ≠ b1143 := Nat.ne_of_lt (Nat.lt_of_lt_of_le f1150.lt (Nat.le_of_eq g1143.symm))
    have ne1143_b1130 : b1130 ≠ b1143 := Nat.ne_of_lt (Nat.lt_of_lt_of_le V1140.lt (Nat.le_of_eq g1143.symm))
    have g_b1143 : n0 ≤ b1143 := Nat.le_trans Z1140 (Nat.le_of_eq g1143.symm)
    have sz_b1143 : h0.size ≤ b1143 := Nat.le_trans K1140.1 (Nat.le_of_eq g1143.symm)
    have F1143_visible : Fld Z h1143 b1143 "com/example/killdeer/killdeer/GadgetView" "visible" "Z" (.int 0) := D1143 (Or.inr (wd hw 48 rfl)) (ty := .boolean) (by decide)
    have F1143_appearance : Fld Z h1143 b1143 "com/example/killdeer/killdeer/GadgetView" "appearance" "Ljava/lang/String;" .null := D1143 (Or.inr (wd hw 50 rfl)) (ty := (.object "java/lang/String")) (by decide)
    have F1143_x : Fld Z h1143 b1143 "com/example/killdeer/killdeer/GadgetView" "x" "J" (.long 0) := D1143 (Or.inr (wd hw 52 rfl)) (ty := .long) (by decide)
    have F1143_y : Fld Z h1143 b1143 "com/example/killdeer/killdeer/GadgetView" "y" "J" (.long 0) := D1143 (Or.inr (wd hw 54 rfl)) (ty := .long) (by decide)
    have F1143_width : Fld Z h1143 b1143 "com/example/killdeer/killdeer/GadgetView" "width" "J" (.long 0) := D1143 (Or.inr (wd hw 56 rfl)) (ty := .long) (by decide)
    have F1143_height : Fld Z h1143 b1143 "com/example/killdeer/killdeer/GadgetView" "height" "J" (.long 0) := D1143 (Or.inr (wd hw 58 rfl)) (ty := .long) (by decide)
    have F1143_obscured : Fld Z h1143 b1143 "com/example/killdeer/killdeer/GadgetView" "obscured" "Lcom/example/killdeer/killdeer/GadgetView$Obscured;" .null := D1143 (Or.inr (wd hw 60 rfl)) (ty := (.object "com/example/killdeer/killdeer/GadgetView$Obscured")) (by decide)
    have K1143 : Keep h0 h1143 [] := Keep.ext K1140 E1143
    have Z1143 : n0 ≤ h1143.size := Nat.le_trans Z1140 E1143.1
    refine Goes.by st1143 ?_
    refine Goes.by (fun _ kz => XS.dup X1143.here hx rfl (hb hby at_341) rfl rfl (XS.iload X1143.here hx rfl (hb hby at_342) rfl kz)) ?_
    have f1152 := (f1144.ext E1143)
    have f1153 := (f1145.ext E1143)
    have f1154 := (f1146.ext E1143)
    have f1155 := (f1142.ext E1143)
    have f1156 := (f1147.ext E1143)
    have f1157 := (f1148.ext E1143)
    have f1158 := (f1149.ext E1143)
    have f1159 := (f1150.ext E1143)
    have f1160 := (V1140.ext E1143)
    obtain ⟨T1151, h1151, X1151, e1151, E1151, A1151, D1151, -, st1151⟩ := newO X1143 hx hZ hown (wd hw 13 rfl) (wd hw 14 rfl) (wd hw 15 rfl) e1143 (g := (mkF m 344 #[lv p1, .second, lv p2, .second, lv p3, .second, lv p4, .second, iv p5, iv p6, rv b1, iv z1, iv z2, iv oi, iv oj, iv ch0, iv ch1, iv ch2, iv zB, iv 7, iv (((p6.toUInt32 >>> ((4 : Int32) &&& 31).toUInt32).toInt32) &&& (3 : Int32)), rv b17, iv z1, rv b1130, lv p1, .second, lv p2, .second, lv p3, .second, lv p4, .second, rv (own_o w oj), .unset, .unset, .unset] [(.int z1), (.ref b1143), (.ref b1143)])) rfl (hb hby at_344) (by decide) (by decide)
    obtain ⟨b1151, g1151⟩ : ∃ z, z = h1143.size := ⟨_, rfl⟩
    rw [← g1151] at A1151 D1151 st1151
    have ne1151__w_0_ : (w 0) ≠ b1151 := Nat.ne_of_lt (Nat.lt_of_lt_of_le f1152.lt (Nat.le_of_eq g1151.symm))
    have ne1151__w_1_ : (w 1) ≠ b1151 := Nat.ne_of_lt (Nat.lt_of_lt_of_le f1153.lt (Nat.le_of_eq g1151.symm))
    have ne1151__w_2_ : (w 2) ≠ b1151 := Nat.ne_of_lt (Nat.lt_of_lt_of_le f1154.lt (Nat.le_of_eq g1151.symm))
    have ne1151_b1 : b1 ≠ b1151 := Nat.ne_of_lt (Nat.lt_of_lt_of_le f1155.lt (Nat.le_of_eq g1151.symm))
    have ne1151_b17 : b17 ≠ b1151 := Nat.ne_of_lt (Nat.lt_of_lt_of_le f1156.lt (Nat.le_of_eq g1151.symm))
    have ne1151_b21 : b21 ≠ b1151 := Nat.ne_of_lt (Nat.lt_of_lt_of_le f1157.lt (Nat.le_of_eq g1151.symm))
    have ne1151_b26 : b26 ≠ b1151 := Nat.ne_of_lt (Nat.lt_of_lt_of_le f1158.lt (Nat.le_of_eq g1151.symm))
    have ne1151_t44 : t44 ≠ b1151 := Nat.ne_of_lt (Nat.lt_of_lt_of_le f1159.lt (Nat.le_of_eq g1151.symm))
    have ne1151_b1130 : b1130 ≠ b1151 := Nat.ne_of_lt (Nat.lt_of_lt_of_le f1160.lt (Nat.le_of_eq g1151.symm))
    have ne1151_b1143 : b1143 ≠ b1151 := Nat.ne_of_lt (Nat.lt_of_lt_of_le A1143.lt (Nat.le_of_eq g1151.symm))
    have g_b1151 : n0 ≤ b1151 := Nat.le_trans Z1143 (Nat.le_of_eq g1151.symm)
    have sz_b1151 : h0.size ≤ b1151 := Nat.le_trans K1143.1 (Nat.le_of_eq g1151.symm)
    have F1151_coder : Fld Z h1151 b1151 "java/lang/String" "coder" "B" (.int 0) := D1151 (Or.inr (wd hw 40 rfl)) (ty := .byte) (by decide)
    have F1151_value : Fld Z h1151 b1151 "java/lang/String" "value" "[B" .null := D1151 (Or.inr (wd hw 42 rfl)) (ty := (.array .byte)) (by decide)
    have K1151 : Keep h0 h1151 [] := Keep.ext K1143 E1151
    have Z1151 : n0 ≤ h1151.size := Nat.le_trans Z1143 E1151.1
    refine Goes.by st1151 ?_
    refine Goes.by (fun _ kz => XS.dup X1151.here hx rfl (hb hby at_347) rfl rfl (XS.aload X1151.here hx rfl (hb hby at_348) rfl rfl kz)) ?_
    show Goes p e below (T1151.setTop (mkF m 350 #[lv p1, .second, lv p2, .second, lv p3, .second, lv p4, .second, iv p5, iv p6, rv b1, iv z1, iv z2, iv oi, iv oj, iv ch0, iv ch1, iv ch2, iv zB, iv 7, iv (((p6.toUInt32 >>> ((4 : Int32) &&& 31).toUInt32).toInt32) &&& (3 : Int32)), rv b17, iv z1, rv b1130, lv p1, .second, lv p2, .second, lv p3, .second, lv p4, .second, rv (own_o w oj), .unset, .unset, .unset] [(.ref b1130), (.ref b1151), (.ref b1151), (.int z1), (.ref b1143), (.ref b1143)])) _
    have f1161 := (f1160.ext E1151)
    have f1162 := (((Sta.wr W1140 (Sta.wr W1139 ((own_staKeep (own_staKeep f37 Kq44 (allS (own_nsE f34) all0)) Kq81 (allS (own_nsE f73) all0)).ext E1130))).ext E1143).ext E1151)
    have f1163 := (f1152.ext E1151)
    have f1164 := (f1153.ext E1151)
    have f1165 := (f1154.ext E1151)
    have f1166 := (f1155.ext E1151)
    have f1167 := (f1156.ext E1151)
    have f1168 := (f1157.ext E1151)
    have f1169 := (f1158.ext E1151)
    have f1170 := (f1159.ext E1151)
    have f1171 := (A1143.ext E1151)
    have hp1172 : ∀ c ∈ ([ch0, ch1] : List Int32), ¬ c < 0 ∧ ¬ (255 : Int32) < c := by
      intro c hc; simp only [List.mem_cons, List.not_mem_nil, or_false] at hc
      rcases hc with hc | hc
      · rw [hc]; exact hb_ch0
      · rw [hc]; exact hb_ch1
    have hcd1172 : StrChars.Road.CodA ([ch0, ch1] : List Int32) 0 (2 : Int32) ((([ch0, ch1] : List Int32).map (fun c => c.toInt8.toInt32)).map Value.int) := StrChars.Road.codOf (n := 2) rfl (fun c hc => (hp1172 c hc).2)
    have hbd1172 := own_up _ hp1172
    obtain ⟨_, _, ⟨T1173, L1173, k1173, n1173⟩, -, X1173, ⟨Lc1173, hQ1173, l1173, y1173, z1173⟩, st1173⟩ := X1151.specialBack hx (y := (⟨"java/lang/String", "<init>", "([C)V"⟩ : MethodName)) rfl hown (mvT hZ (wd hw 17 rfl)) (mvT hZ (wd hw 18 rfl)) (mvT hZ (wd hw 19 rfl)) (by decide) (StrChars.Road.backV (W := 4) hZ hws (kI := 4) (wd hw 14 rfl) (cs := ([ch0, ch1] : List Int32)) (bs := (([ch0, ch1] : List Int32).map (fun c => c.toInt8.toInt32))) (n := 2) g_b1151 Z1151 A1151 F1151_value F1151_coder f1161 f1162 hzc rfl rfl (by decide) (by decide) hp1172 rfl (by decide) (by decide)) (g := (mkF m 350 #[lv p1, .second, lv p2, .second, lv p3, .second, lv p4, .second, iv p5, iv p6, rv b1, iv z1, iv z2, iv oi, iv oj, iv ch0, iv ch1, iv ch2, iv zB, iv 7, iv (((p6.toUInt32 >>> ((4 : Int32) &&& 31).toUInt32).toInt32) &&& (3 : Int32)), rv b17, iv z1, rv b1130, lv p1, .second, lv p2, .second, lv p3, .second, lv p4, .second, rv (own_o w oj), .unset, .unset, .unset] [(.ref b1130), (.ref b1151), (.ref b1151), (.int z1), (.ref b1143), (.ref b1143)])) rfl (by rw [hml]; rfl) (Steps.refl _) (a := b1151) (argsL := [(.ref b1130)]) (rest := [(.ref b1151), (.int z1), (.ref b1143), (.ref b1143)]) (lenOf pd0 rfl) rfl (by show 2 * 0 + _ ≤ _; exact Nat.le_of_eq rfl) (hb hby at_350) (fun _ _ => ⟨rfl, e1151, (by decide : 8 + 1 ≤ _), (by decide : 31 + 2 ≤ _)⟩)
    dsimp only [Pt.U, Pt.locs, Pt.cells, Pt.slots] at X1173 l1173 y1173 z1173 st1173 hQ1173
    subst l1173 y1173 z1173
    obtain ⟨rfl, Nq1173, Kq1173, gE1173, gC1173, t1173, kb1173, u1_1173, u2_1173, u3_1173, gV1173, gA1173⟩ := hQ1173
    have K1173 : Keep h0 T1173.heap [] := Keep.trans K1151 Kq1173 (allS (Or.inr sz_b1151) all0)
    have Z1173 : n0 ≤ T1173.heap.size := Nat.le_trans Z1151 Kq1173.1
    have net1173__w_0_ : (w 0) ≠ t1173 := Nat.ne_of_lt (Nat.lt_of_lt_of_le f1163.lt u2_1173)
    have net1173__w_1_ : (w 1) ≠ t1173 := Nat.ne_of_lt (Nat.lt_of_lt_of_le f1164.lt u2_1173)
    have net1173__w_2_ : (w 2) ≠ t1173 := Nat.ne_of_lt (Nat.lt_of_lt_of_le f1165.lt u2_1173)
    have net1173_b1 : b1 ≠ t1173 := Nat.ne_of_lt (Nat.lt_of_lt_of_le f1166.lt u2_1173)
    have net1173_b17 : b17 ≠ t1173 := Nat.ne_of_lt (Nat.lt_of_lt_of_le f1167.lt u2_1173)
    have net1173_b21 : b21 ≠ t1173 := Nat.ne_of_lt (Nat.lt_of_lt_of_le f1168.lt u2_1173)
    have net1173_b26 : b26 ≠ t1173 := Nat.ne_of_lt (Nat.lt_of_lt_of_le f1169.lt u2_1173)
    have net1173_t44 : t44 ≠ t1173 := Nat.ne_of_lt (Nat.lt_of_lt_of_le f1170.lt u2_1173)
    have net1173_b1130 : b1130 ≠ t1173 := Nat.ne_of_lt (Nat.lt_of_lt_of_le f1161.lt u2_1173)
    have net1173_b1143 : b1143 ≠ t1173 := Nat.ne_of_lt (Nat.lt_of_lt_of_le f1171.lt u2_1173)
    have net1173_b1151 : b1151 ≠ t1173 := Nat.ne_of_lt (Nat.lt_of_lt_of_le A1151.lt u2_1173)
    have g_t1173 : n0 ≤ t1173 := Nat.le_trans Z1151 u2_1173
    have sz_t1173 : h0.size ≤ t1173 := Nat.le_trans K1151.1 u2_1173
    have N1173 := Fr.app N1140 Nq1173
    refine Goes.tr st1173 ?_
    refine Goes.by (fun _ kz => XS.lload X1173.here hx rfl (hb hby at_353) rfl (XS.lload X1173.here hx rfl (hb hby at_355) rfl (XS.lload X1173.here hx rfl (hb hby at_357) rfl kz))) ?_
    show Goes p e below (T1173.setTop (mkF m 359 #[lv p1, .second, lv p2, .second, lv p3, .second, lv p4, .second, iv p5, iv p6, rv b1, iv z1, iv z2, iv oi, iv oj, iv ch0, iv ch1, iv ch2, iv zB, iv 7, iv (((p6.toUInt32 >>> ((4 : Int32) &&& 31).toUInt32).toInt32) &&& (3 : Int32)), rv b17, iv z1, rv b1130, lv p1, .second, lv p2, .second, lv p3, .second, lv p4, .second, rv (own_o w oj), .unset, .unset, .unset] [(.long p3), (.long p2), (.long p1), (.ref b1151), (.int z1), (.ref b1143), (.ref b1143)])) _
    refine Goes.by (fun _ kz => XS.lload X1173.here hx rfl (hb hby at_359) rfl (XS.aload X1173.here hx rfl (hb hby at_361) rfl rfl kz)) ?_
    have f1174 := (f1171.keep Kq1173)
    have f1175 := ((F1143_visible.ext E1151).keep Kq1173 (ninS ne1151_b1143 nin0))
    have f1176 := ((F1143_appearance.ext E1151).keep Kq1173 (ninS ne1151_b1143 nin0))
    have f1177 := ((F1143_x.ext E1151).keep Kq1173 (ninS ne1151_b1143 nin0))
    have f1178 := ((F1143_y.ext E1151).keep Kq1173 (ninS ne1151_b1143 nin0))
    have f1179 := ((F1143_width.ext E1151).keep Kq1173 (ninS ne1151_b1143 nin0))
    have f1180 := ((F1143_height.ext E1151).keep Kq1173 (ninS ne1151_b1143 nin0))
    have f1181 := ((F1143_obscured.ext E1151).keep Kq1173 (ninS ne1151_b1143 nin0))
    obtain ⟨_, _, ⟨T1182, L1182, k1182, n1182⟩, -, X1182, ⟨Lc1182, hQ1182, l1182, y1182, z1182⟩, st1182⟩ := X1173.specialBack hx (y := (⟨"com/example/killdeer/killdeer/GadgetView", "<init>", "(ZLjava/lang/String;JJJJLcom/example/killdeer/killdeer/GadgetView$Obscured;)V"⟩ : MethodName)) rfl hown (mvT hZ (wd hw 43 rfl)) (mvT hZ (wd hw 44 rfl)) (mvT hZ (wd hw 45 rfl)) (by decide) (backOf (W := 1) (r7_0 l Z a0 hw [] T1173.heap n0 Z1173 b1143 z1 b1151 p1 p2 p3 p4 (own_o w oj) f1174 f1175 f1176 f1177 f1178 f1179 f1180 f1181 g_b1143) hZ (wd hw 45 rfl) (wd hw 12 rfl) (by decide) (by decide)) (g := (mkF m 363 #[lv p1, .second, lv p2, .second, lv p3, .second, lv p4, .second, iv p5, iv p6, rv b1, iv z1, iv z2, iv oi, iv oj, iv ch0, iv ch1, iv ch2, iv zB, iv 7, iv (((p6.toUInt32 >>> ((4 : Int32) &&& 31).toUInt32).toInt32) &&& (3 : Int32)), rv b17, iv z1, rv b1130, lv p1, .second, lv p2, .second, lv p3, .second, lv p4, .second, rv (own_o w oj), .unset, .unset, .unset] [(.ref (own_o w oj)), (.long p4), (.long p3), (.long p2), (.long p1), (.ref b1151), (.int z1), (.ref b1143), (.ref b1143)])) rfl (by rw [hml]; rfl) (Steps.refl _) (a := b1143) (argsL := [(.int z1), (.ref b1151), (.long p1), (.long p2), (.long p3), (.long p4), (.ref (own_o w oj))]) (rest := [(.ref b1143)]) (lenOf pd1 rfl) rfl (by show 2 * 0 + _ ≤ _; exact Nat.le_of_eq rfl) (hb hby at_363) (fun _ _ => ⟨rfl, rfl, (by decide : 9 + 0 ≤ _), (by decide : 33 + 0 ≤ _)⟩)
    dsimp only [Pt.U, Pt.locs, Pt.cells, Pt.slots] at X1182 l1182 y1182 z1182 st1182 hQ1182
    subst l1182 y1182 z1182
    obtain ⟨rfl, Nq1182, Kq1182, fq1182_0, fq1182_1, fq1182_2, fq1182_3, fq1182_4, fq1182_5, fq1182_6⟩ := hQ1182
    have K1182 : Keep h0 T1182.heap [] := Keep.trans K1173 Kq1182 (allS (Or.inr sz_b1143) all0)
    have Z1182 : n0 ≤ T1182.heap.size := Nat.le_trans Z1173 Kq1182.1
    have N1182 := Fr.app N1173 Nq1182
    refine Goes.tr st1182 ?_
    refine Goes.by (fun _ kz => XS.astore X1182.here hx rfl (hb hby at_366) rfl rfl rfl (XS.iload X1182.here hx rfl (hb hby at_368) rfl (XS.ifYes X1182.here hx rfl (pc0 := 370) (pc' := 379) rfl (hb hby at_370) rfl ((if0 _ _).trans (feq (by decide : ¬ ((7 : Int32) = (0 : Int32)))).2) (by decide) (by decide) kz))) ?_
    show Goes p e below (T1182.setTop (mkF m 379 #[lv p1, .second, lv p2, .second, lv p3, .second, lv p4, .second, iv p5, iv p6, rv b1, iv z1, iv z2, iv oi, iv oj, iv ch0, iv ch1, iv ch2, iv zB, iv 7, iv (((p6.toUInt32 >>> ((4 : Int32) &&& 31).toUInt32).toInt32) &&& (3 : Int32)), rv b17, iv z1, rv b1130, lv p1, .second, lv p2, .second, lv p3, .second, lv p4, .second, rv (own_o w oj), rv b1143, .unset, .unset] [])) _
    refine Goes.by (fun _ kz => XS.iload X1182.here hx rfl (hb hby at_379) rfl (XS.iconst X1182.here hx rfl (hb hby at_381) (XS.icmpYes X1182.here hx rfl (pc0 := 382) (pc' := 402) rfl (hb hby at_382) rfl (feq (by decide : ¬ ((7 : Int32) = (1 : Int32)))).2 (by decide) (by decide) kz))) ?_
    show Goes p e below (T1182.setTop (mkF m 402 #[lv p1, .second, lv p2, .second, lv p3, .second, lv p4, .second, iv p5, iv p6, rv b1, iv z1, iv z2, iv oi, iv oj, iv ch0, iv ch1, iv ch2, iv zB, iv 7, iv (((p6.toUInt32 >>> ((4 : Int32) &&& 31).toUInt32).toInt32) &&& (3 : Int32)), rv b17, iv z1, rv b1130, lv p1, .second, lv p2, .second, lv p3, .second, lv p4, .second, rv (own_o w oj), rv b1143, .unset, .unset] [])) _
    refine Goes.by (fun _ kz => XS.iload X1182.here hx rfl (hb hby at_402) rfl (XS.iconst X1182.here hx rfl (hb hby at_404) (XS.icmpYes X1182.here hx rfl (pc0 := 405) (pc' := 430) rfl (hb hby at_405) rfl (feq (by decide : ¬ ((7 : Int32) = (2 : Int32)))).2 (by decide) (by decide) kz))) ?_
    show Goes p e below (T1182.setTop (mkF m 430 #[lv p1, .second, lv p2, .second, lv p3, .second, lv p4, .second, iv p5, iv p6, rv b1, iv z1, iv z2, iv oi, iv oj, iv ch0, iv ch1, iv ch2, iv zB, iv 7, iv (((p6.toUInt32 >>> ((4 : Int32) &&& 31).toUInt32).toInt32) &&& (3 : Int32)), rv b17, iv z1, rv b1130, lv p1, .second, lv p2, .second, lv p3, .second, lv p4, .second, rv (own_o w oj), rv b1143, .unset, .unset] [])) _
    refine Goes.by (fun _ kz => XS.iload X1182.here hx rfl (hb hby at_430) rfl (XS.iconst X1182.here hx rfl (hb hby at_432) (XS.icmpYes X1182.here hx rfl (pc0 := 433) (pc' := 453) rfl (hb hby at_433) rfl (feq (by decide : ¬ ((7 : Int32) = (3 : Int32)))).2 (by decide) (by decide) kz))) ?_
    show Goes p e below (T1182.setTop (mkF m 453 #[lv p1, .second, lv p2, .second, lv p3, .second, lv p4, .second, iv p5, iv p6, rv b1, iv z1, iv z2, iv oi, iv oj, iv ch0, iv ch1, iv ch2, iv zB, iv 7, iv (((p6.toUInt32 >>> ((4 : Int32) &&& 31).toUInt32).toInt32) &&& (3 : Int32)), rv b17, iv z1, rv b1130, lv p1, .second, lv p2, .second, lv p3, .second, lv p4, .second, rv (own_o w oj), rv b1143, .unset, .unset] [])) _
    refine Goes.by (fun _ kz => XS.iload X1182.here hx rfl (hb hby at_453) rfl (XS.iconst X1182.here hx rfl (hb hby at_455) (XS.icmpYes X1182.here hx rfl (pc0 := 456) (pc' := 476) rfl (hb hby at_456) rfl (feq (by decide : ¬ ((7 : Int32) = (4 : Int32)))).2 (by decide) (by decide) kz))) ?_
    show Goes p e below (T1182.setTop (mkF m 476 #[lv p1, .second, lv p2, .second, lv p3, .second, lv p4, .second, iv p5, iv p6, rv b1, iv z1, iv z2, iv oi, iv oj, iv ch0, iv ch1, iv ch2, iv zB, iv 7, iv (((p6.toUInt32 >>> ((4 : Int32) &&& 31).toUInt32).toInt32) &&& (3 : Int32)), rv b17, iv z1, rv b1130, lv p1, .second, lv p2, .second, lv p3, .second, lv p4, .second, rv (own_o w oj), rv b1143, .unset, .unset] [])) _
    refine Goes.by (fun _ kz => XS.iload X1182.here hx rfl (hb hby at_476) rfl (XS.iconst X1182.here hx rfl (hb hby at_478) (XS.icmpYes X1182.here hx rfl (pc0 := 479) (pc' := 500) rfl (hb hby at_479) rfl (feq (by decide : ¬ ((7 : Int32) = (5 : Int32)))).2 (by decide) (by decide) kz))) ?_
    show Goes p e below (T1182.setTop (mkF m 500 #[lv p1, .second, lv p2, .second, lv p3, .second, lv p4, .second, iv p5, iv p6, rv b1, iv z1, iv z2, iv oi, iv oj, iv ch0, iv ch1, iv ch2, iv zB, iv 7, iv (((p6.toUInt32 >>> ((4 : Int32) &&& 31).toUInt32).toInt32) &&& (3 : Int32)), rv b17, iv z1, rv b1130, lv p1, .second, lv p2, .second, lv p3, .second, lv p4, .second, rv (own_o w oj), rv b1143, .unset, .unset] [])) _
    refine Goes.by (fun _ kz => XS.iload X1182.here hx rfl (hb hby at_500) rfl (XS.bipush X1182.here hx rfl (hb hby at_502) (XS.icmpYes X1182.here hx rfl (pc0 := 504) (pc' := 524) rfl (hb hby at_504) rfl (feq (by decide : ¬ ((7 : Int32) = (6 : Int32)))).2 (by decide) (by decide) kz))) ?_
    show Goes p e below (T1182.setTop (mkF m 524 #[lv p1, .second, lv p2, .second, lv p3, .second, lv p4, .second, iv p5, iv p6, rv b1, iv z1, iv z2, iv oi, iv oj, iv ch0, iv ch1, iv ch2, iv zB, iv 7, iv (((p6.toUInt32 >>> ((4 : Int32) &&& 31).toUInt32).toInt32) &&& (3 : Int32)), rv b17, iv z1, rv b1130, lv p1, .second, lv p2, .second, lv p3, .second, lv p4, .second, rv (own_o w oj), rv b1143, .unset, .unset] [])) _
    refine Goes.by (fun _ kz => XS.iload X1182.here hx rfl (hb hby at_524) rfl (XS.iload X1182.here hx rfl (hb hby at_526) rfl kz)) ?_
    show Goes p e below (T1182.setTop (mkF m 528 #[lv p1, .second, lv p2, .second, lv p3, .second, lv p4, .second, iv p5, iv p6, rv b1, iv z1, iv z2, iv oi, iv oj, iv ch0, iv ch1, iv ch2, iv zB, iv 7, iv (((p6.toUInt32 >>> ((4 : Int32) &&& 31).toUInt32).toInt32) &&& (3 : Int32)), rv b17, iv z1, rv b1130, lv p1, .second, lv p2, .second, lv p3, .second, lv p4, .second, rv (own_o w oj), rv b1143, .unset, .unset] [(.int oj), (.int oi)])) _
    refine Goes.join (fun ze : Int32 => (ze = 1 ∧ oi = oj) ∨ (ze = 0 ∧ ¬ oi = oj)) (fun ze => T1182.setTop (mkF m 536 #[lv p1, .second, lv p2, .second, lv p3, .second, lv p4, .second, iv p5, iv p6, rv b1, iv z1, iv z2, iv oi, iv oj, iv ch0, iv ch1, iv ch2, iv zB, iv 7, iv (((p6.toUInt32 >>> ((4 : Int32) &&& 31).toUInt32).toInt32) &&& (3 : Int32)), rv b17, iv z1, rv b1130, lv p1, .second, lv p2, .second, lv p3, .second, lv p4, .second, rv (own_o w oj), rv b1143, .unset, .unset] [(.int ze)])) (fun J => ?_) (fun ze hze => ?_)
    · show Goes p e below (T1182.setTop (mkF m 528 #[lv p1, .second, lv p2, .second, lv p3, .second, lv p4, .second, iv p5, iv p6, rv b1, iv z1, iv z2, iv oi, iv oj, iv ch0, iv ch1, iv ch2, iv zB, iv 7, iv (((p6.toUInt32 >>> ((4 : Int32) &&& 31).toUInt32).toInt32) &&& (3 : Int32)), rv b17, iv z1, rv b1130, lv p1, .second, lv p2, .second, lv p3, .second, lv p4, .second, rv (own_o w oj), rv b1143, .unset, .unset] [(.int oj), (.int oi)])) _
      by_cases hc1183 : oi = oj
      · refine Goes.by (fun _ kz => XS.icmpNo X1182.here hx rfl (hb hby at_528) rfl (teq hc1183).2 (XS.iconst X1182.here hx rfl (hb hby at_531) (XS.goto X1182.here hx rfl (pc0 := 532) (pc' := 536) rfl (hb hby at_532) (by decide) (by decide) kz))) ?_
        show Goes p e below (T1182.setTop (mkF m 536 #[lv p1, .second, lv p2, .second, lv p3, .second, lv p4, .second, iv p5, iv p6, rv b1, iv z1, iv z2, iv oi, iv oj, iv ch0, iv ch1, iv ch2, iv zB, iv 7, iv (((p6.toUInt32 >>> ((4 : Int32) &&& 31).toUInt32).toInt32) &&& (3 : Int32)), rv b17, iv z1, rv b1130, lv p1, .second, lv p2, .second, lv p3, .second, lv p4, .second, rv (own_o w oj), rv b1143, .unset, .unset] [(.int 1)])) _
        exact J (1 : Int32) (Or.inl ⟨rfl, hc1183⟩)
      · refine Goes.by (fun _ kz => XS.icmpYes X1182.here hx rfl (pc0 := 528) (pc' := 535) rfl (hb hby at_528) rfl (feq hc1183).2 (by decide) (by decide) (XS.iconst X1182.here hx rfl (hb hby at_535) kz)) ?_
        show Goes p e below (T1182.setTop (mkF m 536 #[lv p1, .second, lv p2, .second, lv p3, .second, lv p4, .second, iv p5, iv p6, rv b1, iv z1, iv z2, iv oi, iv oj, iv ch0, iv ch1, iv ch2, iv zB, iv 7, iv (((p6.toUInt32 >>> ((4 : Int32) &&& 31).toUInt32).toInt32) &&& (3 : Int32)), rv b17, iv z1, rv b1130, lv p1, .second, lv p2, .second, lv p3, .second, lv p4, .second, rv (own_o w oj), rv b1143, .unset, .unset] [(.int 0)])) _
        exact J (0 : Int32) (Or.inr ⟨rfl, hc1183⟩)
    show Goes p e below (T1182.setTop (mkF m 536 #[lv p1, .second, lv p2, .second, lv p3, .second, lv p4, .second, iv p5, iv p6, rv b1, iv z1, iv z2, iv oi, iv oj, iv ch0, iv ch1, iv ch2, iv zB, iv 7, iv (((p6.toUInt32 >>> ((4 : Int32) &&& 31).toUInt32).toInt32) &&& (3 : Int32)), rv b17, iv z1, rv b1130, lv p1, .second, lv p2, .second, lv p3, .second, lv p4, .second, rv (own_o w oj), rv b1143, .unset, .unset] [(.int ze)])) _
    refine Goes.by (fun _ kz => XS.istore X1182.here hx rfl (hb hby at_536) rfl rfl kz) ?_
    show Goes p e below (T1182.setTop (mkF m 538 #[lv p1, .second, lv p2, .second, lv p3, .second, lv p4, .second, iv p5, iv p6, rv b1, iv z1, iv z2, iv oi, iv oj, iv ch0, iv ch1, iv ch2, iv zB, iv 7, iv (((p6.toUInt32 >>> ((4 : Int32) &&& 31).toUInt32).toInt32) &&& (3 : Int32)), rv b17, iv z1, rv b1130, lv p1, .second, lv p2, .second, lv p3, .second, lv p4, .second, rv (own_o w oj), rv b1143, iv ze, .unset] [])) _
    have hsot := own_k (((p6.toUInt32 >>> ((4 : Int32) &&& 31).toUInt32).toInt32))
    obtain ⟨ot, hot⟩ : ∃ z, z = (((p6.toUInt32 >>> ((4 : Int32) &&& 31).toUInt32).toInt32) &&& (3 : Int32)) := ⟨_, rfl⟩
    rw [← hot] at hsot ⊢
    rcases hsot with rfl | rfl | rfl | rfl
    · show Goes p e below (T1182.setTop (mkF m 538 #[lv p1, .second, lv p2, .second, lv p3, .second, lv p4, .second, iv p5, iv p6, rv b1, iv z1, iv z2, iv oi, iv oj, iv ch0, iv ch1, iv ch2, iv zB, iv 7, iv 0, rv b17, iv z1, rv b1130, lv p1, .second, lv p2, .second, lv p3, .second, lv p4, .second, rv (own_o w oj), rv b1143, iv ze, .unset] [])) _
      refine Goes.by (fun _ kz => XS.iload X1182.here hx rfl (hb hby at_538) rfl (XS.iconst X1182.here hx rfl (hb hby at_540) (XS.icmpYes X1182.here hx rfl (pc0 := 541) (pc' := 552) rfl (hb hby at_541) rfl (feq (by decide : ¬ ((0 : Int32) = (1 : Int32)))).2 (by decide) (by decide) kz))) ?_
      show Goes p e below (T1182.setTop (mkF m 552 #[lv p1, .second, lv p2, .second, lv p3, .second, lv p4, .second, iv p5, iv p6, rv b1, iv z1, iv z2, iv oi, iv oj, iv ch0, iv ch1, iv ch2, iv zB, iv 7, iv 0, rv b17, iv z1, rv b1130, lv p1, .second, lv p2, .second, lv p3, .second, lv p4, .second, rv (own_o w oj), rv b1143, iv ze, .unset] [])) _
      refine Goes.by (fun _ kz => XS.iload X1182.here hx rfl (hb hby at_552) rfl (XS.iconst X1182.here hx rfl (hb hby at_554) (XS.icmpYes X1182.here hx rfl (pc0 := 555) (pc' := 573) rfl (hb hby at_555) rfl (feq (by decide : ¬ ((0 : Int32) = (2 : Int32)))).2 (by decide) (by decide) kz))) ?_
      show Goes p e below (T1182.setTop (mkF m 573 #[lv p1, .second, lv p2, .second, lv p3, .second, lv p4, .second, iv p5, iv p6, rv b1, iv z1, iv z2, iv oi, iv oj, iv ch0, iv ch1, iv ch2, iv zB, iv 7, iv 0, rv b17, iv z1, rv b1130, lv p1, .second, lv p2, .second, lv p3, .second, lv p4, .second, rv (own_o w oj), rv b1143, iv ze, .unset] [])) _
      refine Goes.by (fun _ kz => XS.iload X1182.here hx rfl (hb hby at_573) rfl (XS.iconst X1182.here hx rfl (hb hby at_575) (XS.icmpYes X1182.here hx rfl (pc0 := 576) (pc' := 612) rfl (hb hby at_576) rfl (feq (by decide : ¬ ((0 : Int32) = (3 : Int32)))).2 (by decide) (by decide) kz))) ?_
      show Goes p e below (T1182.setTop (mkF m 612 #[lv p1, .second, lv p2, .second, lv p3, .second, lv p4, .second, iv p5, iv p6, rv b1, iv z1, iv z2, iv oi, iv oj, iv ch0, iv ch1, iv ch2, iv zB, iv 7, iv 0, rv b17, iv z1, rv b1130, lv p1, .second, lv p2, .second, lv p3, .second, lv p4, .second, rv (own_o w oj), rv b1143, iv ze, .unset] [])) _
      refine Goes.by (fun _ kz => XS.aload X1182.here hx rfl (hb hby at_612) rfl rfl (XS.aload X1182.here hx rfl (hb hby at_614) rfl rfl kz)) ?_
      have f1184 := ((f1167.keep Kq1173).keep Kq1182)
      have f1185 := (((((Fld.other W1140 (Fld.other W1139 (fq81_0.ext E1130) (Or.inl ne1130_b17)) (Or.inl ne1130_b17)).ext E1143).ext E1151).keep Kq1173 (ninS ne1151_b17 nin0)).keep Kq1182 (ninS ne1143_b17 nin0))
      have f1186 := (((((Fld.other W1140 (Fld.other W1139 (fq81_1.ext E1130) (Or.inl ne1130_b17)) (Or.inl ne1130_b17)).ext E1143).ext E1151).keep Kq1173 (ninS ne1151_b17 nin0)).keep Kq1182 (ninS ne1143_b17 nin0))
      have f1187 := (((((Fld.other W1140 (Fld.other W1139 (fq81_2.ext E1130) (Or.inl ne1130_b17)) (Or.inl ne1130_b17)).ext E1143).ext E1151).keep Kq1173 (ninS ne1151_b17 nin0)).keep Kq1182 (ninS ne1143_b17 nin0))
      have f1188 := (((((Fld.other W1140 (Fld.other W1139 (fq81_3.ext E1130) (Or.inl ne1130_b17)) (Or.inl ne1130_b17)).ext E1143).ext E1151).keep Kq1173 (ninS ne1151_b17 nin0)).keep Kq1182 (ninS ne1143_b17 nin0))
      have f1189 := (((((Fld.other W1140 (Fld.other W1139 (fq81_4.ext E1130) (Or.inl ne1130_b17)) (Or.inl ne1130_b17)).ext E1143).ext E1151).keep Kq1173 (ninS ne1151_b17 nin0)).keep Kq1182 (ninS ne1143_b17 nin0))
      have f1190 := (((((Fld.other W1140 (Fld.other W1139 (fq81_5.ext E1130) (Or.inl ne1130_b17)) (Or.inl ne1130_b17)).ext E1143).ext E1151).keep Kq1173 (ninS ne1151_b17 nin0)).keep Kq1182 (ninS ne1143_b17 nin0))
      have f1191 := (((((Fld.other W1140 (Fld.other W1139 (fq81_6.ext E1130) (Or.inl ne1130_b17)) (Or.inl ne1130_b17)).ext E1143).ext E1151).keep Kq1173 (ninS ne1151_b17 nin0)).keep Kq1182 (ninS ne1143_b17 nin0))
      have f1192 := ((f1168.keep Kq1173).keep Kq1182)
      have f1193 := (((((Fld.other W1140 (Fld.other W1139 ((gV44.keep Kq81 (ninS (Ne.symm ne21_b17) nin0)).ext E1130) (Or.inl ne1130_b21)) (Or.inl ne1130_b21)).ext E1143).ext E1151).keep Kq1173 (ninS ne1151_b21 nin0)).keep Kq1182 (ninS ne1143_b21 nin0))
      have f1194 := (((((Fld.other W1140 (Fld.other W1139 ((gC44.keep Kq81 (ninS (Ne.symm ne21_b17) nin0)).ext E1130) (Or.inl ne1130_b21)) (Or.inl ne1130_b21)).ext E1143).ext E1151).keep Kq1173 (ninS ne1151_b21 nin0)).keep Kq1182 (ninS ne1143_b21 nin0))
      have f1195 := ((f1170.keep Kq1173 (ninS ne1151_t44 nin0)).keep Kq1182 (ninS ne1143_t44 nin0))
      have f1196 := (f1174.keep Kq1182)
      have f1197 := ((A1151.keep Kq1173).keep Kq1182)
      have f1198 := (gV1173.keep Kq1182 (ninS (Ne.symm ne1151_b1143) nin0))
      have f1199 := (gC1173.keep Kq1182 (ninS (Ne.symm ne1151_b1143) nin0))
      have f1200 := (gA1173.keep Kq1182 (ninS (Ne.symm net1173_b1143) nin0))
      have f1201 := (own_staKeep (own_staKeep f1162 Kq1173 (allS (own_nsE A1151) all0)) Kq1182 (allS (own_nsE f1174) all0))
      obtain ⟨cq1202, kq1202, q1202a, q1202b, q1202c⟩ := isOf hZ rfl f1184
      obtain ⟨_, _, ⟨T1202, L1202, k1202, n1202⟩, -, X1202, ⟨Lc1202, hQ1202, l1202, y1202, z1202⟩, st1202⟩ := X1182.virtualBack hx (y := (⟨"com/example/killdeer/killdeer/GadgetView", "equals", "(Ljava/lang/Object;)Z"⟩ : MethodName)) (z := (⟨"com/example/killdeer/killdeer/GadgetView", "equals", "(Ljava/lang/Object;)Z"⟩ : MethodName)) hown (mvT hZ (wd hw 61 rfl)) (mvT hZ (wd hw 62 rfl)) (notFace_of_selects (args := #[]) (mvT hZ (wd hw 64 rfl))) (mvT hZ (wd hw 64 rfl)) (mvT hZ (wd hw 63 rfl)) (by decide) (backOf (W := 0) (r8_0 l Z a0 hw [] T1182.heap n0 Z1182 b17 b1143 (nar .boolean z1) (nar .boolean z1) b21 b1151 t44 t1173 kb44 kb1173 ([ch0, ch1] : List Int32) ([ch0, ch1] : List Int32) (2 : Int32) (2 : Int32) ((([ch0, ch1] : List Int32).map (fun c => c.toInt8.toInt32)).map Value.int) ((([ch0, ch1] : List Int32).map (fun c => c.toInt8.toInt32)).map Value.int) p1 p1 p2 p2 p3 p3 p4 p4 (own_o w oi) (own_o w oj) zc f1184 f1185 f1186 f1187 f1188 f1189 f1190 f1191 f1192 f1193 f1194 f1195 hcd43 hbd43 (by simp) f1196 fq1182_0 fq1182_1 fq1182_2 fq1182_3 fq1182_4 fq1182_5 fq1182_6 f1197 f1198 f1199 f1200 hcd1172 hbd1172 (by simp) f1201 hzc ne1143_b17) hZ (wd hw 65 rfl) (wd hw 12 rfl) (by decide) (by decide)) q1202a q1202c (g := (mkF m 616 #[lv p1, .second, lv p2, .second, lv p3, .second, lv p4, .second, iv p5, iv p6, rv b1, iv z1, iv z2, iv oi, iv oj, iv ch0, iv ch1, iv ch2, iv zB, iv 7, iv 0, rv b17, iv z1, rv b1130, lv p1, .second, lv p2, .second, lv p3, .second, lv p4, .second, rv (own_o w oj), rv b1143, iv ze, .unset] [(.ref b1143), (.ref b17)])) rfl (by rw [hml]; rfl) (Steps.refl _) (argsL := [(.ref b1143)]) (rest := []) (lenOf pd2 rfl) rfl (by show 2 * 0 + _ ≤ _; exact Nat.le_of_eq rfl) (hb hby at_616) (fun _ _ => ⟨rfl, rfl, (by decide : 9 + 0 ≤ _), (by decide : 33 + 0 ≤ _)⟩)
      dsimp only [Pt.U, Pt.locs, Pt.cells, Pt.slots] at X1202 l1202 y1202 z1202 st1202 hQ1202
      subst l1202 y1202 z1202
      rcases hQ1202 with hQ1202 | hQ1202
      · obtain ⟨rfl, Nq1202, e1202, hS1202⟩ := hQ1202
        have N1202 := Fr.app N1182 Nq1202
        refine Goes.tr st1202 ?_
        refine Goes.by (fun _ kz => XS.iload X1202.here hx rfl (hb hby at_619) rfl kz) ?_
        show Goes p e below (T1202.setTop (mkF m 621 #[lv p1, .second, lv p2, .second, lv p3, .second, lv p4, .second, iv p5, iv p6, rv b1, iv z1, iv z2, iv oi, iv oj, iv ch0, iv ch1, iv ch2, iv zB, iv 7, iv 0, rv b17, iv z1, rv b1130, lv p1, .second, lv p2, .second, lv p3, .second, lv p4, .second, rv (own_o w oj), rv b1143, iv ze, .unset] [(.int ze), (.int 1)])) _
        by_cases hc1203 : (1 : Int32) = ze
        · refine Goes.by (fun _ kz => XS.icmpNo X1202.here hx rfl (hb hby at_621) rfl (teq hc1203).2 (XS.aload X1202.here hx rfl (hb hby at_624) rfl rfl (XS.aload X1202.here hx rfl (hb hby at_626) rfl rfl kz))) ?_
          obtain ⟨cq1204, kq1204, q1204a, q1204b, q1204c⟩ := isOf hZ e1202 f1196
          obtain ⟨_, _, ⟨T1204, L1204, k1204, n1204⟩, -, X1204, ⟨Lc1204, hQ1204, l1204, y1204, z1204⟩, st1204⟩ := X1202.virtualBack hx (y := (⟨"com/example/killdeer/killdeer/GadgetView", "equals", "(Ljava/lang/Object;)Z"⟩ : MethodName)) (z := (⟨"com/example/killdeer/killdeer/GadgetView", "equals", "(Ljava/lang/Object;)Z"⟩ : MethodName)) hown (mvT hZ (wd hw 61 rfl)) (mvT hZ (wd hw 62 rfl)) (notFace_of_selects (args := #[]) (mvT hZ (wd hw 64 rfl))) (mvT hZ (wd hw 64 rfl)) (mvT hZ (wd hw 63 rfl)) (by decide) (backOf (W := 0) (r8_0 l Z a0 hw [] T1182.heap n0 Z1182 b1143 b17 (nar .boolean z1) (nar .boolean z1) b1151 b21 t1173 t44 kb1173 kb44 ([ch0, ch1] : List Int32) ([ch0, ch1] : List Int32) (2 : Int32) (2 : Int32) ((([ch0, ch1] : List Int32).map (fun c => c.toInt8.toInt32)).map Value.int) ((([ch0, ch1] : List Int32).map (fun c => c.toInt8.toInt32)).map Value.int) p1 p1 p2 p2 p3 p3 p4 p4 (own_o w oj) (own_o w oi) zc f1196 fq1182_0 fq1182_1 fq1182_2 fq1182_3 fq1182_4 fq1182_5 fq1182_6 f1197 f1198 f1199 f1200 hcd1172 hbd1172 (by simp) f1184 f1185 f1186 f1187 f1188 f1189 f1190 f1191 f1192 f1193 f1194 f1195 hcd43 hbd43 (by simp) f1201 hzc (Ne.symm ne1143_b17)) hZ (wd hw 65 rfl) (wd hw 12 rfl) (by decide) (by decide)) q1204a q1204c (g := (mkF m 628 #[lv p1, .second, lv p2, .second, lv p3, .second, lv p4, .second, iv p5, iv p6, rv b1, iv z1, iv z2, iv oi, iv oj, iv ch0, iv ch1, iv ch2, iv zB, iv 7, iv 0, rv b17, iv z1, rv b1130, lv p1, .second, lv p2, .second, lv p3, .second, lv p4, .second, rv (own_o w oj), rv b1143, iv ze, .unset] [(.ref b17), (.ref b1143)])) rfl (by rw [hml]; rfl) (Steps.refl _) (argsL := [(.ref b17)]) (rest := []) (lenOf pd2 rfl) rfl (by show 2 * 0 + _ ≤ _; exact Nat.le_of_eq rfl) (hb hby at_628) (fun _ _ => ⟨rfl, e1202, (by decide : 9 + 0 ≤ _), (by decide : 33 + 0 ≤ _)⟩)
          dsimp only [Pt.U, Pt.locs, Pt.cells, Pt.slots] at X1204 l1204 y1204 z1204 st1204 hQ1204
          subst l1204 y1204 z1204
          rcases hQ1204 with hQ1204 | hQ1204
          · obtain ⟨rfl, Nq1204, e1204, hS1204⟩ := hQ1204
            have N1204 := Fr.app N1202 Nq1204
            refine Goes.tr st1204 ?_
            refine Goes.by (fun _ kz => XS.iload X1204.here hx rfl (hb hby at_631) rfl (XS.icmpNo X1204.here hx rfl (hb hby at_633) rfl (teq hc1203).2 (XS.iconst X1204.here hx rfl (hb hby at_636) kz))) ?_
            show Goes p e below (T1204.setTop (mkF m 637 #[lv p1, .second, lv p2, .second, lv p3, .second, lv p4, .second, iv p5, iv p6, rv b1, iv z1, iv z2, iv oi, iv oj, iv ch0, iv ch1, iv ch2, iv zB, iv 7, iv 0, rv b17, iv z1, rv b1130, lv p1, .second, lv p2, .second, lv p3, .second, lv p4, .second, rv (own_o w oj), rv b1143, iv ze, .unset] [(.int 1)])) _
            refine Goes.by (fun _ kz => XS.goto X1204.here hx rfl (pc0 := 637) (pc' := 641) rfl (hb hby at_637) (by decide) (by decide) kz) ?_
            show Goes p e below (T1204.setTop (mkF m 641 #[lv p1, .second, lv p2, .second, lv p3, .second, lv p4, .second, iv p5, iv p6, rv b1, iv z1, iv z2, iv oi, iv oj, iv ch0, iv ch1, iv ch2, iv zB, iv 7, iv 0, rv b17, iv z1, rv b1130, lv p1, .second, lv p2, .second, lv p3, .second, lv p4, .second, rv (own_o w oj), rv b1143, iv ze, .unset] [(.int 1)])) _
            obtain ⟨fs, hr, hrun, hended, hW, hsame⟩ := X1204.leave (v := some (.int 1)) (fun h => by rw [Bd.returns] at h; cases h)
            exact ⟨_, _, retN X1204 hx (t := .boolean) Bd.returns (by simp) (hb hby at_641) hr, hrun, hended, _, _, rfl, ⟨rfl, N1204⟩, ⟨_, rfl⟩, hW, hsame.mono (by decide) (by decide)⟩
          · obtain ⟨rfl, Nq1204, e1204, hS1204⟩ := hQ1204
            have N1204 := Fr.app N1202 Nq1204
            refine Goes.tr st1204 ?_
            refine Goes.by (fun _ kz => XS.iload X1204.here hx rfl (hb hby at_631) rfl (XS.icmpYes X1204.here hx rfl (pc0 := 633) (pc' := 640) rfl (hb hby at_633) rfl (feq (by rw [← hc1203]; decide : ¬ ((0 : Int32) = ze))).2 (by decide) (by decide) (XS.iconst X1204.here hx rfl (hb hby at_640) kz))) ?_
            show Goes p e below (T1204.setTop (mkF m 641 #[lv p1, .second, lv p2, .second, lv p3, .second, lv p4, .second, iv p5, iv p6, rv b1, iv z1, iv z2, iv oi, iv oj, iv ch0, iv ch1, iv ch2, iv zB, iv 7, iv 0, rv b17, iv z1, rv b1130, lv p1, .second, lv p2, .second, lv p3, .second, lv p4, .second, rv (own_o w oj), rv b1143, iv ze, .unset] [(.int 0)])) _
            exfalso
            rcases hze with ⟨hz, hC⟩ | ⟨hz, hC⟩
            · first | (rw [hz] at hc1203; exact absurd hc1203 (by decide)) | (revert hS1204; simp [own_same, own_nb hz1, own_nb hz2, own_oinj pne01 pne02 pne12 h_oi h_oj, own_oinj pne01 pne02 pne12 h_oj h_oi, hC]; done)
            · first | (rw [hz] at hc1203; exact absurd hc1203 (by decide)) | (revert hS1204; simp [own_same, own_nb hz1, own_nb hz2, own_oinj pne01 pne02 pne12 h_oi h_oj, own_oinj pne01 pne02 pne12 h_oj h_oi, hC, Ne.symm hC]; done)
        · refine Goes.by (fun _ kz => XS.icmpYes X1202.here hx rfl (pc0 := 621) (pc' := 640) rfl (hb hby at_621) rfl (feq hc1203).2 (by decide) (by decide) (XS.iconst X1202.here hx rfl (hb hby at_640) kz)) ?_
          show Goes p e below (T1202.setTop (mkF m 641 #[lv p1, .second, lv p2, .second, lv p3, .second, lv p4, .second, iv p5, iv p6, rv b1, iv z1, iv z2, iv oi, iv oj, iv ch0, iv ch1, iv ch2, iv zB, iv 7, iv 0, rv b17, iv z1, rv b1130, lv p1, .second, lv p2, .second, lv p3, .second, lv p4, .second, rv (own_o w oj), rv b1143, iv ze, .unset] [(.int 0)])) _
          exfalso
          rcases hze with ⟨hz, hC⟩ | ⟨hz, hC⟩
          · first | (rw [hz] at hc1203; exact absurd hc1203 (by decide)) | (revert hS1202; simp [own_same, own_nb hz1, own_nb hz2, own_oinj pne01 pne02 pne12 h_oi h_oj, own_oinj pne01 pne02 pne12 h_oj h_oi, hC]; done)
          · first | (rw [hz] at hc1203; exact absurd hc1203 (by decide)) | (revert hS1202; simp [own_same, own_nb hz1, own_nb hz2, own_oinj pne01 pne02 pne12 h_oi h_oj, own_oinj pne01 pne02 pne12 h_oj h_oi, hC, Ne.symm hC]; done)
      · obtain ⟨rfl, Nq1202, e1202, hS1202⟩ := hQ1202
        have N1202 := Fr.app N1182 Nq1202
        refine Goes.tr st1202 ?_
        refine Goes.by (fun _ kz => XS.iload X1202.here hx rfl (hb hby at_619) rfl kz) ?_
        show Goes p e below (T1202.setTop (mkF m 621 #[lv p1, .second, lv p2, .second, lv p3, .second, lv p4, .second, iv p5, iv p6, rv b1, iv z1, iv z2, iv oi, iv oj, iv ch0, iv ch1, iv ch2, iv zB, iv 7, iv 0, rv b17, iv z1, rv b1130, lv p1, .second, lv p2, .second, lv p3, .second, lv p4, .second, rv (own_o w oj), rv b1143, iv ze, .unset] [(.int ze), (.int 0)])) _
        by_cases hc1205 : (0 : Int32) = ze
        · refine Goes.by (fun _ kz => XS.icmpNo X1202.here hx rfl (hb hby at_621) rfl (teq hc1205).2 (XS.aload X1202.here hx rfl (hb hby at_624) rfl rfl (XS.aload X1202.here hx rfl (hb hby at_626) rfl rfl kz))) ?_
          obtain ⟨cq1206, kq1206, q1206a, q1206b, q1206c⟩ := isOf hZ e1202 f1196
          obtain ⟨_, _, ⟨T1206, L1206, k1206, n1206⟩, -, X1206, ⟨Lc1206, hQ1206, l1206, y1206, z1206⟩, st1206⟩ := X1202.virtualBack hx (y := (⟨"com/example/killdeer/killdeer/GadgetView", "equals", "(Ljava/lang/Object;)Z"⟩ : MethodName)) (z := (⟨"com/example/killdeer/killdeer/GadgetView", "equals", "(Ljava/lang/Object;)Z"⟩ : MethodName)) hown (mvT hZ (wd hw 61 rfl)) (mvT hZ (wd hw 62 rfl)) (notFace_of_selects (args := #[]) (mvT hZ (wd hw 64 rfl))) (mvT hZ (wd hw 64 rfl)) (mvT hZ (wd hw 63 rfl)) (by decide) (backOf (W := 0) (r8_0 l Z a0 hw [] T1182.heap n0 Z1182 b1143 b17 (nar .boolean z1) (nar .boolean z1) b1151 b21 t1173 t44 kb1173 kb44 ([ch0, ch1] : List Int32) ([ch0, ch1] : List Int32) (2 : Int32) (2 : Int32) ((([ch0, ch1] : List Int32).map (fun c => c.toInt8.toInt32)).map Value.int) ((([ch0, ch1] : List Int32).map (fun c => c.toInt8.toInt32)).map Value.int) p1 p1 p2 p2 p3 p3 p4 p4 (own_o w oj) (own_o w oi) zc f1196 fq1182_0 fq1182_1 fq1182_2 fq1182_3 fq1182_4 fq1182_5 fq1182_6 f1197 f1198 f1199 f1200 hcd1172 hbd1172 (by simp) f1184 f1185 f1186 f1187 f1188 f1189 f1190 f1191 f1192 f1193 f1194 f1195 hcd43 hbd43 (by simp) f1201 hzc (Ne.symm ne1143_b17)) hZ (wd hw 65 rfl) (wd hw 12 rfl) (by decide) (by decide)) q1206a q1206c (g := (mkF m 628 #[lv p1, .second, lv p2, .second, lv p3, .second, lv p4, .second, iv p5, iv p6, rv b1, iv z1, iv z2, iv oi, iv oj, iv ch0, iv ch1, iv ch2, iv zB, iv 7, iv 0, rv b17, iv z1, rv b1130, lv p1, .second, lv p2, .second, lv p3, .second, lv p4, .second, rv (own_o w oj), rv b1143, iv ze, .unset] [(.ref b17), (.ref b1143)])) rfl (by rw [hml]; rfl) (Steps.refl _) (argsL := [(.ref b17)]) (rest := []) (lenOf pd2 rfl) rfl (by show 2 * 0 + _ ≤ _; exact Nat.le_of_eq rfl) (hb hby at_628) (fun _ _ => ⟨rfl, e1202, (by decide : 9 + 0 ≤ _), (by decide : 33 + 0 ≤ _)⟩)
          dsimp only [Pt.U, Pt.locs, Pt.cells, Pt.slots] at X1206 l1206 y1206 z1206 st1206 hQ1206
          subst l1206 y1206 z1206
          rcases hQ1206 with hQ1206 | hQ1206
          · obtain ⟨rfl, Nq1206, e1206, hS1206⟩ := hQ1206
            have N1206 := Fr.app N1202 Nq1206
            refine Goes.tr st1206 ?_
            refine Goes.by (fun _ kz => XS.iload X1206.here hx rfl (hb hby at_631) rfl (XS.icmpYes X1206.here hx rfl (pc0 := 633) (pc' := 640) rfl (hb hby at_633) rfl (feq (by rw [← hc1205]; decide : ¬ ((1 : Int32) = ze))).2 (by decide) (by decide) (XS.iconst X1206.here hx rfl (hb hby at_640) kz))) ?_
            show Goes p e below (T1206.setTop (mkF m 641 #[lv p1, .second, lv p2, .second, lv p3, .second, lv p4, .second, iv p5, iv p6, rv b1, iv z1, iv z2, iv oi, iv oj, iv ch0, iv ch1, iv ch2, iv zB, iv 7, iv 0, rv b17, iv z1, rv b1130, lv p1, .second, lv p2, .second, lv p3, .second, lv p4, .second, rv (own_o w oj), rv b1143, iv ze, .unset] [(.int 0)])) _
            exfalso
            rcases hze with ⟨hz, hC⟩ | ⟨hz, hC⟩
            · first | (rw [hz] at hc1205; exact absurd hc1205 (by decide)) | (revert hS1206; simp [own_same, own_nb hz1, own_nb hz2, own_oinj pne01 pne02 pne12 h_oi h_oj, own_oinj pne01 pne02 pne12 h_oj h_oi, hC]; done)
            · first | (rw [hz] at hc1205; exact absurd hc1205 (by decide)) | (revert hS1206; simp [own_same, own_nb hz1, own_nb hz2, own_oinj pne01 pne02 pne12 h_oi h_oj, own_oinj pne01 pne02 pne12 h_oj h_oi, hC, Ne.symm hC]; done)
          · obtain ⟨rfl, Nq1206, e1206, hS1206⟩ := hQ1206
            have N1206 := Fr.app N1202 Nq1206
            refine Goes.tr st1206 ?_
            refine Goes.by (fun _ kz => XS.iload X1206.here hx rfl (hb hby at_631) rfl (XS.icmpNo X1206.here hx rfl (hb hby at_633) rfl (teq hc1205).2 (XS.iconst X1206.here hx rfl (hb hby at_636) kz))) ?_
            show Goes p e below (T1206.setTop (mkF m 637 #[lv p1, .second, lv p2, .second, lv p3, .second, lv p4, .second, iv p5, iv p6, rv b1, iv z1, iv z2, iv oi, iv oj, iv ch0, iv ch1, iv ch2, iv zB, iv 7, iv 0, rv b17, iv z1, rv b1130, lv p1, .second, lv p2, .second, lv p3, .second, lv p4, .second, rv (own_o w oj), rv b1143, iv ze, .unset] [(.int 1)])) _
            refine Goes.by (fun _ kz => XS.goto X1206.here hx rfl (pc0 := 637) (pc' := 641) rfl (hb hby at_637) (by decide) (by decide) kz) ?_
            show Goes p e below (T1206.setTop (mkF m 641 #[lv p1, .second, lv p2, .second, lv p3, .second, lv p4, .second, iv p5, iv p6, rv b1, iv z1, iv z2, iv oi, iv oj, iv ch0, iv ch1, iv ch2, iv zB, iv 7, iv 0, rv b17, iv z1, rv b1130, lv p1, .second, lv p2, .second, lv p3, .second, lv p4, .second, rv (own_o w oj), rv b1143, iv ze, .unset] [(.int 1)])) _
            obtain ⟨fs, hr, hrun, hended, hW, hsame⟩ := X1206.leave (v := some (.int 1)) (fun h => by rw [Bd.returns] at h; cases h)
            exact ⟨_, _, retN X1206 hx (t := .boolean) Bd.returns (by simp) (hb hby at_641) hr, hrun, hended, _, _, rfl, ⟨rfl, N1206⟩, ⟨_, rfl⟩, hW, hsame.mono (by decide) (by decide)⟩
        · refine Goes.by (fun _ kz => XS.icmpYes X1202.here hx rfl (pc0 := 621) (pc' := 640) rfl (hb hby at_621) rfl (feq hc1205).2 (by decide) (by decide) (XS.iconst X1202.here hx rfl (hb hby at_640) kz)) ?_
          show Goes p e below (T1202.setTop (mkF m 641 #[lv p1, .second, lv p2, .second, lv p3, .second, lv p4, .second, iv p5, iv p6, rv b1, iv z1, iv z2, iv oi, iv oj, iv ch0, iv ch1, iv ch2, iv zB, iv 7, iv 0, rv b17, iv z1, rv b1130, lv p1, .second, lv p2, .second, lv p3, .second, lv p4, .second, rv (own_o w oj), rv b1143, iv ze, .unset] [(.int 0)])) _
          exfalso
          rcases hze with ⟨hz, hC⟩ | ⟨hz, hC⟩
          · first | (rw [hz] at hc1205; exact absurd hc1205 (by decide)) | (revert hS1202; simp [own_same, own_nb hz1, own_nb hz2, own_oinj pne01 pne02 pne12 h_oi h_oj, own_oinj pne01 pne02 pne12 h_oj h_oi, hC]; done)
          · first | (rw [hz] at hc1205; exact absurd hc1205 (by decide)) | (revert hS1202; simp [own_same, own_nb hz1, own_nb hz2, own_oinj pne01 pne02 pne12 h_oi h_oj, own_oinj pne01 pne02 pne12 h_oj h_oi, hC, Ne.symm hC]; done)
    · show Goes p e below (T1182.setTop (mkF m 538 #[lv p1, .second, lv p2, .second, lv p3, .second, lv p4, .second, iv p5, iv p6, rv b1, iv z1, iv z2, iv oi, iv oj, iv ch0, iv ch1, iv ch2, iv zB, iv 7, iv 1, rv b17, iv z1, rv b1130, lv p1, .second, lv p2, .second, lv p3, .second, lv p4, .second, rv (own_o w oj), rv b1143, iv ze, .unset] [])) _
      refine Goes.by (fun _ kz => XS.iload X1182.here hx rfl (hb hby at_538) rfl (XS.iconst X1182.here hx rfl (hb hby at_540) (XS.icmpNo X1182.here hx rfl (hb hby at_541) rfl (teq (by decide : (1 : Int32) = (1 : Int32))).2 kz))) ?_
      show Goes p e below (T1182.setTop (mkF m 544 #[lv p1, .second, lv p2, .second, lv p3, .second, lv p4, .second, iv p5, iv p6, rv b1, iv z1, iv z2, iv oi, iv oj, iv ch0, iv ch1, iv ch2, iv zB, iv 7, iv 1, rv b17, iv z1, rv b1130, lv p1, .second, lv p2, .second, lv p3, .second, lv p4, .second, rv (own_o w oj), rv b1143, iv ze, .unset] [])) _
      refine Goes.by (fun _ kz => XS.aload X1182.here hx rfl (hb hby at_544) rfl rfl (XS.aload X1182.here hx rfl (hb hby at_546) rfl rfl kz)) ?_
      have f1208 := ((f1167.keep Kq1173).keep Kq1182)
      obtain ⟨cq1207, kq1207, q1207a, q1207b, q1207c⟩ := isOf hZ rfl f1208
      obtain ⟨_, _, ⟨T1207, L1207, k1207, n1207⟩, -, X1207, ⟨Lc1207, hQ1207, l1207, y1207, z1207⟩, st1207⟩ := X1182.virtualBack hx (y := (⟨"com/example/killdeer/killdeer/GadgetView", "equals", "(Ljava/lang/Object;)Z"⟩ : MethodName)) (z := (⟨"com/example/killdeer/killdeer/GadgetView", "equals", "(Ljava/lang/Object;)Z"⟩ : MethodName)) hown (mvT hZ (wd hw 61 rfl)) (mvT hZ (wd hw 62 rfl)) (notFace_of_selects (args := #[]) (mvT hZ (wd hw 64 rfl))) (mvT hZ (wd hw 64 rfl)) (mvT hZ (wd hw 63 rfl)) (by decide) (backOf (W := 0) (r8_same l Z a0 hw [] T1182.heap n0 Z1182 b17) hZ (wd hw 65 rfl) (wd hw 12 rfl) (by decide) (by decide)) q1207a q1207c (g := (mkF m 548 #[lv p1, .second, lv p2, .second, lv p3, .second, lv p4, .second, iv p5, iv p6, rv b1, iv z1, iv z2, iv oi, iv oj, iv ch0, iv ch1, iv ch2, iv zB, iv 7, iv 1, rv b17, iv z1, rv b1130, lv p1, .second, lv p2, .second, lv p3, .second, lv p4, .second, rv (own_o w oj), rv b1143, iv ze, .unset] [(.ref b17), (.ref b17)])) rfl (by rw [hml]; rfl) (Steps.refl _) (argsL := [(.ref b17)]) (rest := []) (lenOf pd2 rfl) rfl (by show 2 * 0 + _ ≤ _; exact Nat.le_of_eq rfl) (hb hby at_548) (fun _ _ => ⟨rfl, rfl, (by decide : 9 + 0 ≤ _), (by decide : 33 + 0 ≤ _)⟩)
      dsimp only [Pt.U, Pt.locs, Pt.cells, Pt.slots] at X1207 l1207 y1207 z1207 st1207 hQ1207
      subst l1207 y1207 z1207
      obtain ⟨rfl, Nq1207, e1207⟩ := hQ1207
      have N1207 := Fr.app N1182 Nq1207
      refine Goes.tr st1207 ?_
      show Goes p e below (T1207.setTop (mkF m 551 #[lv p1, .second, lv p2, .second, lv p3, .second, lv p4, .second, iv p5, iv p6, rv b1, iv z1, iv z2, iv oi, iv oj, iv ch0, iv ch1, iv ch2, iv zB, iv 7, iv 1, rv b17, iv z1, rv b1130, lv p1, .second, lv p2, .second, lv p3, .second, lv p4, .second, rv (own_o w oj), rv b1143, iv ze, .unset] [(.int 1)])) _
      obtain ⟨fs, hr, hrun, hended, hW, hsame⟩ := X1207.leave (v := some (.int 1)) (fun h => by rw [Bd.returns] at h; cases h)
      exact ⟨_, _, retN X1207 hx (t := .boolean) Bd.returns (by simp) (hb hby at_551) hr, hrun, hended, _, _, rfl, ⟨rfl, N1207⟩, ⟨_, rfl⟩, hW, hsame.mono (by decide) (by decide)⟩
    · show Goes p e below (T1182.setTop (mkF m 538 #[lv p1, .second, lv p2, .second, lv p3, .second, lv p4, .second, iv p5, iv p6, rv b1, iv z1, iv z2, iv oi, iv oj, iv ch0, iv ch1, iv ch2, iv zB, iv 7, iv 2, rv b17, iv z1, rv b1130, lv p1, .second, lv p2, .second, lv p3, .second, lv p4, .second, rv (own_o w oj), rv b1143, iv ze, .unset] [])) _
      refine Goes.by (fun _ kz => XS.iload X1182.here hx rfl (hb hby at_538) rfl (XS.iconst X1182.here hx rfl (hb hby at_540) (XS.icmpYes X1182.here hx rfl (pc0 := 541) (pc' := 552) rfl (hb hby at_541) rfl (feq (by decide : ¬ ((2 : Int32) = (1 : Int32)))).2 (by decide) (by decide) kz))) ?_
      show Goes p e below (T1182.setTop (mkF m 552 #[lv p1, .second, lv p2, .second, lv p3, .second, lv p4, .second, iv p5, iv p6, rv b1, iv z1, iv z2, iv oi, iv oj, iv ch0, iv ch1, iv ch2, iv zB, iv 7, iv 2, rv b17, iv z1, rv b1130, lv p1, .second, lv p2, .second, lv p3, .second, lv p4, .second, rv (own_o w oj), rv b1143, iv ze, .unset] [])) _
      refine Goes.by (fun _ kz => XS.iload X1182.here hx rfl (hb hby at_552) rfl (XS.iconst X1182.here hx rfl (hb hby at_554) (XS.icmpNo X1182.here hx rfl (hb hby at_555) rfl (teq (by decide : (2 : Int32) = (2 : Int32))).2 kz))) ?_
      show Goes p e below (T1182.setTop (mkF m 558 #[lv p1, .second, lv p2, .second, lv p3, .second, lv p4, .second, iv p5, iv p6, rv b1, iv z1, iv z2, iv oi, iv oj, iv ch0, iv ch1, iv ch2, iv zB, iv 7, iv 2, rv b17, iv z1, rv b1130, lv p1, .second, lv p2, .second, lv p3, .second, lv p4, .second, rv (own_o w oj), rv b1143, iv ze, .unset] [])) _
      refine Goes.by (fun _ kz => XS.aload X1182.here hx rfl (hb hby at_558) rfl rfl (XS.aconstNull X1182.here hx rfl (hb hby at_560) kz)) ?_
      have f1210 := ((f1167.keep Kq1173).keep Kq1182)
      obtain ⟨cq1209, kq1209, q1209a, q1209b, q1209c⟩ := isOf hZ rfl f1210
      obtain ⟨_, _, ⟨T1209, L1209, k1209, n1209⟩, -, X1209, ⟨Lc1209, hQ1209, l1209, y1209, z1209⟩, st1209⟩ := X1182.virtualBack hx (y := (⟨"com/example/killdeer/killdeer/GadgetView", "equals", "(Ljava/lang/Object;)Z"⟩ : MethodName)) (z := (⟨"com/example/killdeer/killdeer/GadgetView", "equals", "(Ljava/lang/Object;)Z"⟩ : MethodName)) hown (mvT hZ (wd hw 61 rfl)) (mvT hZ (wd hw 62 rfl)) (notFace_of_selects (args := #[]) (mvT hZ (wd hw 64 rfl))) (mvT hZ (wd hw 64 rfl)) (mvT hZ (wd hw 63 rfl)) (by decide) (backOf (W := 0) (r8_null l Z a0 hw [] T1182.heap n0 Z1182 b17) hZ (wd hw 65 rfl) (wd hw 12 rfl) (by decide) (by decide)) q1209a q1209c (g := (mkF m 561 #[lv p1, .second, lv p2, .second, lv p3, .second, lv p4, .second, iv p5, iv p6, rv b1, iv z1, iv z2, iv oi, iv oj, iv ch0, iv ch1, iv ch2, iv zB, iv 7, iv 2, rv b17, iv z1, rv b1130, lv p1, .second, lv p2, .second, lv p3, .second, lv p4, .second, rv (own_o w oj), rv b1143, iv ze, .unset] [.null, (.ref b17)])) rfl (by rw [hml]; rfl) (Steps.refl _) (argsL := [.null]) (rest := []) (lenOf pd2 rfl) rfl (by show 2 * 0 + _ ≤ _; exact Nat.le_of_eq rfl) (hb hby at_561) (fun _ _ => ⟨rfl, rfl, (by decide : 9 + 0 ≤ _), (by decide : 33 + 0 ≤ _)⟩)
      dsimp only [Pt.U, Pt.locs, Pt.cells, Pt.slots] at X1209 l1209 y1209 z1209 st1209 hQ1209
      subst l1209 y1209 z1209
      obtain ⟨rfl, Nq1209, e1209⟩ := hQ1209
      have N1209 := Fr.app N1182 Nq1209
      refine Goes.tr st1209 ?_
      refine Goes.by (fun _ kz => XS.ifNo X1209.here hx rfl (hb hby at_564) rfl ((if0 _ _).trans (teq (by decide : (0 : Int32) = (0 : Int32))).2) (XS.iconst X1209.here hx rfl (hb hby at_567) (XS.goto X1209.here hx rfl (pc0 := 568) (pc' := 572) rfl (hb hby at_568) (by decide) (by decide) kz))) ?_
      show Goes p e below (T1209.setTop (mkF m 572 #[lv p1, .second, lv p2, .second, lv p3, .second, lv p4, .second, iv p5, iv p6, rv b1, iv z1, iv z2, iv oi, iv oj, iv ch0, iv ch1, iv ch2, iv zB, iv 7, iv 2, rv b17, iv z1, rv b1130, lv p1, .second, lv p2, .second, lv p3, .second, lv p4, .second, rv (own_o w oj), rv b1143, iv ze, .unset] [(.int 1)])) _
      obtain ⟨fs, hr, hrun, hended, hW, hsame⟩ := X1209.leave (v := some (.int 1)) (fun h => by rw [Bd.returns] at h; cases h)
      exact ⟨_, _, retN X1209 hx (t := .boolean) Bd.returns (by simp) (hb hby at_572) hr, hrun, hended, _, _, rfl, ⟨rfl, N1209⟩, ⟨_, rfl⟩, hW, hsame.mono (by decide) (by decide)⟩
    · show Goes p e below (T1182.setTop (mkF m 538 #[lv p1, .second, lv p2, .second, lv p3, .second, lv p4, .second, iv p5, iv p6, rv b1, iv z1, iv z2, iv oi, iv oj, iv ch0, iv ch1, iv ch2, iv zB, iv 7, iv 3, rv b17, iv z1, rv b1130, lv p1, .second, lv p2, .second, lv p3, .second, lv p4, .second, rv (own_o w oj), rv b1143, iv ze, .unset] [])) _
      refine Goes.by (fun _ kz => XS.iload X1182.here hx rfl (hb hby at_538) rfl (XS.iconst X1182.here hx rfl (hb hby at_540) (XS.icmpYes X1182.here hx rfl (pc0 := 541) (pc' := 552) rfl (hb hby at_541) rfl (feq (by decide : ¬ ((3 : Int32) = (1 : Int32)))).2 (by decide) (by decide) kz))) ?_
      show Goes p e below (T1182.setTop (mkF m 552 #[lv p1, .second, lv p2, .second, lv p3, .second, lv p4, .second, iv p5, iv p6, rv b1, iv z1, iv z2, iv oi, iv oj, iv ch0, iv ch1, iv ch2, iv zB, iv 7, iv 3, rv b17, iv z1, rv b1130, lv p1, .second, lv p2, .second, lv p3, .second, lv p4, .second, rv (own_o w oj), rv b1143, iv ze, .unset] [])) _
      refine Goes.by (fun _ kz => XS.iload X1182.here hx rfl (hb hby at_552) rfl (XS.iconst X1182.here hx rfl (hb hby at_554) (XS.icmpYes X1182.here hx rfl (pc0 := 555) (pc' := 573) rfl (hb hby at_555) rfl (feq (by decide : ¬ ((3 : Int32) = (2 : Int32)))).2 (by decide) (by decide) kz))) ?_
      show Goes p e below (T1182.setTop (mkF m 573 #[lv p1, .second, lv p2, .second, lv p3, .second, lv p4, .second, iv p5, iv p6, rv b1, iv z1, iv z2, iv oi, iv oj, iv ch0, iv ch1, iv ch2, iv zB, iv 7, iv 3, rv b17, iv z1, rv b1130, lv p1, .second, lv p2, .second, lv p3, .second, lv p4, .second, rv (own_o w oj), rv b1143, iv ze, .unset] [])) _
      refine Goes.by (fun _ kz => XS.iload X1182.here hx rfl (hb hby at_573) rfl (XS.iconst X1182.here hx rfl (hb hby at_575) (XS.icmpNo X1182.here hx rfl (hb hby at_576) rfl (teq (by decide : (3 : Int32) = (3 : Int32))).2 kz))) ?_
      have f1212 := ((f1163.keep Kq1173).keep Kq1182)
      have f1213 := ((f1164.keep Kq1173).keep Kq1182)
      have f1214 := ((f1165.keep Kq1173).keep Kq1182)
      have f1215 := ((f1166.keep Kq1173 (ninS ne1151_b1 nin0)).keep Kq1182 (ninS ne1143_b1 nin0))
      have f1216 := ((f1167.keep Kq1173).keep Kq1182)
      have f1217 := ((f1168.keep Kq1173).keep Kq1182)
      have f1218 := ((f1169.keep Kq1173 (ninS ne1151_b26 nin0)).keep Kq1182 (ninS ne1143_b26 nin0))
      have f1219 := ((f1170.keep Kq1173 (ninS ne1151_t44 nin0)).keep Kq1182 (ninS ne1143_t44 nin0))
      have f1220 := ((f1161.keep Kq1173 (ninS ne1151_b1130 nin0)).keep Kq1182 (ninS ne1143_b1130 nin0))
      have f1221 := (f1174.keep Kq1182)
      have f1222 := ((A1151.keep Kq1173).keep Kq1182)
      have f1223 := (gA1173.keep Kq1182 (ninS (Ne.symm net1173_b1143) nin0))
      obtain ⟨T1211, h1211, X1211, e1211, E1211, A1211, D1211, -, st1211⟩ := newO X1182 hx hZ hown (wd hw 13 rfl) (wd hw 14 rfl) (wd hw 15 rfl) rfl (g := (mkF m 579 #[lv p1, .second, lv p2, .second, lv p3, .second, lv p4, .second, iv p5, iv p6, rv b1, iv z1, iv z2, iv oi, iv oj, iv ch0, iv ch1, iv ch2, iv zB, iv 7, iv 3, rv b17, iv z1, rv b1130, lv p1, .second, lv p2, .second, lv p3, .second, lv p4, .second, rv (own_o w oj), rv b1143, iv ze, .unset] [])) rfl (hb hby at_579) (by decide) (by decide)
      obtain ⟨b1211, g1211⟩ : ∃ z, z = T1182.heap.size := ⟨_, rfl⟩
      rw [← g1211] at A1211 D1211 st1211
      have ne1211__w_0_ : (w 0) ≠ b1211 := Nat.ne_of_lt (Nat.lt_of_lt_of_le f1212.lt (Nat.le_of_eq g1211.symm))
      have ne1211__w_1_ : (w 1) ≠ b1211 := Nat.ne_of_lt (Nat.lt_of_lt_of_le f1213.lt (Nat.le_of_eq g1211.symm))
      have ne1211__w_2_ : (w 2) ≠ b1211 := Nat.ne_of_lt (Nat.lt_of_lt_of_le f1214.lt (Nat.le_of_eq g1211.symm))
      have ne1211_b1 : b1 ≠ b1211 := Nat.ne_of_lt (Nat.lt_of_lt_of_le f1215.lt (Nat.le_of_eq g1211.symm))
      have ne1211_b17 : b17 ≠ b1211 := Nat.ne_of_lt (Nat.lt_of_lt_of_le f1216.lt (Nat.le_of_eq g1211.symm))
      have ne1211_b21 : b21 ≠ b1211 := Nat.ne_of_lt (Nat.lt_of_lt_of_le f1217.lt (Nat.le_of_eq g1211.symm))
      have ne1211_b26 : b26 ≠ b1211 := Nat.ne_of_lt (Nat.lt_of_lt_of_le f1218.lt (Nat.le_of_eq g1211.symm))
      have ne1211_t44 : t44 ≠ b1211 := Nat.ne_of_lt (Nat.lt_of_lt_of_le f1219.lt (Nat.le_of_eq g1211.symm))
      have ne1211_b1130 : b1130 ≠ b1211 := Nat.ne_of_lt (Nat.lt_of_lt_of_le f1220.lt (Nat.le_of_eq g1211.symm))
      have ne1211_b1143 : b1143 ≠ b1211 := Nat.ne_of_lt (Nat.lt_of_lt_of_le f1221.lt (Nat.le_of_eq g1211.symm))
      have ne1211_b1151 : b1151 ≠ b1211 := Nat.ne_of_lt (Nat.lt_of_lt_of_le f1222.lt (Nat.le_of_eq g1211.symm))
      have ne1211_t1173 : t1173 ≠ b1211 := Nat.ne_of_lt (Nat.lt_of_lt_of_le f1223.lt (Nat.le_of_eq g1211.symm))
      have g_b1211 : n0 ≤ b1211 := Nat.le_trans Z1182 (Nat.le_of_eq g1211.symm)
      have sz_b1211 : h0.size ≤ b1211 := Nat.le_trans K1182.1 (Nat.le_of_eq g1211.symm)
      have F1211_coder : Fld Z h1211 b1211 "java/lang/String" "coder" "B" (.int 0) := D1211 (Or.inr (wd hw 40 rfl)) (ty := .byte) (by decide)
      have F1211_value : Fld Z h1211 b1211 "java/lang/String" "value" "[B" .null := D1211 (Or.inr (wd hw 42 rfl)) (ty := (.array .byte)) (by decide)
      have K1211 : Keep h0 h1211 [] := Keep.ext K1182 E1211
      have Z1211 : n0 ≤ h1211.size := Nat.le_trans Z1182 E1211.1
      refine Goes.by st1211 ?_
      refine Goes.by (fun _ kz => XS.dup X1211.here hx rfl (hb hby at_582) rfl rfl (XS.iconst X1211.here hx rfl (hb hby at_583) kz)) ?_
      have f1225 := (f1212.ext E1211)
      have f1226 := (f1213.ext E1211)
      have f1227 := (f1214.ext E1211)
      have f1228 := (f1215.ext E1211)
      have f1229 := (f1216.ext E1211)
      have f1230 := (f1217.ext E1211)
      have f1231 := (f1218.ext E1211)
      have f1232 := (f1219.ext E1211)
      have f1233 := (f1220.ext E1211)
      have f1234 := (f1221.ext E1211)
      have f1235 := (f1222.ext E1211)
      have f1236 := (f1223.ext E1211)
      obtain ⟨T1224, h1224, k1224, X1224, e1224, E1224, A1224, st1224⟩ := newP X1211 hx hZ (wd hw 16 rfl) e1211 (g := (mkF m 584 #[lv p1, .second, lv p2, .second, lv p3, .second, lv p4, .second, iv p5, iv p6, rv b1, iv z1, iv z2, iv oi, iv oj, iv ch0, iv ch1, iv ch2, iv zB, iv 7, iv 3, rv b17, iv z1, rv b1130, lv p1, .second, lv p2, .second, lv p3, .second, lv p4, .second, rv (own_o w oj), rv b1143, iv ze, .unset] [(.int 1), (.ref b1211), (.ref b1211)])) rfl (hb hby at_584) rfl (by decide) (cap := 1) (by decide) (by decide) (by decide) (by decide)
      obtain ⟨b1224, g1224⟩ : ∃ z, z = h1211.size := ⟨_, rfl⟩
      rw [← g1224] at A1224 st1224
      have ne1224__w_0_ : (w 0) ≠ b1224 := Nat.ne_of_lt (Nat.lt_of_lt_of_le f1225.lt (Nat.le_of_eq g1224.symm))
      have ne1224__w_1_ : (w 1) ≠ b1224 := Nat.ne_of_lt (Nat.lt_of_lt_of_le f1226.lt (Nat.le_of_eq g1224.symm))
      have ne1224__w_2_ : (w 2) ≠ b1224 := Nat.ne_of_lt (Nat.lt_of_lt_of_le f1227.lt (Nat.le_of_eq g1224.symm))
      have ne1224_b1 : b1 ≠ b1224 := Nat.ne_of_lt (Nat.lt_of_lt_of_le f1228.lt (Nat.le_of_eq g1224.symm))
      have ne1224_b17 : b17 ≠ b1224 := Nat.ne_of_lt (Nat.lt_of_lt_of_le f1229.lt (Nat.le_of_eq g1224.symm))
      have ne1224_b21 : b21 ≠ b1224 := Nat.ne_of_lt (Nat.lt_of_lt_of_le f1230.lt (Nat.le_of_eq g1224.symm))
      have ne1224_b26 : b26 ≠ b1224 := Nat.ne_of_lt (Nat.lt_of_lt_of_le f1231.lt (Nat.le_of_eq g1224.symm))
      have ne1224_t44 : t44 ≠ b1224 := Nat.ne_of_lt (Nat.lt_of_lt_of_le f1232.lt (Nat.le_of_eq g1224.symm))
      have ne1224_b1130 : b1130 ≠ b1224 := Nat.ne_of_lt (Nat.lt_of_lt_of_le f1233.lt (Nat.le_of_eq g1224.symm))
      have ne1224_b1143 : b1143 ≠ b1224 := Nat.ne_of_lt (Nat.lt_of_lt_of_le f1234.lt (Nat.le_of_eq g1224.symm))
      have ne1224_b1151 : b1151 ≠ b1224 := Nat.ne_of_lt (Nat.lt_of_lt_of_le f1235.lt (Nat.le_of_eq g1224.symm))
      have ne1224_t1173 : t1173 ≠ b1224 := Nat.ne_of_lt (Nat.lt_of_lt_of_le f1236.lt (Nat.le_of_eq g1224.symm))
      have ne1224_b1211 : b1211 ≠ b1224 := Nat.ne_of_lt (Nat.lt_of_lt_of_le A1211.lt (Nat.le_of_eq g1224.symm))
      have g_b1224 : n0 ≤ b1224 := Nat.le_trans Z1211 (Nat.le_of_eq g1224.symm)
      have sz_b1224 : h0.size ≤ b1224 := Nat.le_trans K1211.1 (Nat.le_of_eq g1224.symm)
      have V1224 : Arv Z h1224 b1224 k1224 .char (1 : Int32) [(.int 0)] (.int 0) := (Arv.new A1224 (by decide)).pad (pad_rep [] (.int 0) 1)
      have K1224 : Keep h0 h1224 [] := Keep.ext K1211 E1224
      have Z1224 : n0 ≤ h1224.size := Nat.le_trans Z1211 E1224.1
      refine Goes.by st1224 ?_
      refine Goes.by (fun _ kz => XS.dup X1224.here hx rfl (hb hby at_586) rfl rfl (XS.iconst X1224.here hx rfl (hb hby at_587) (XS.iload X1224.here hx rfl (hb hby at_588) rfl kz))) ?_
      obtain ⟨cl1237, Ar1237, Cq1237, Sz1237, Nn1237, Hh1237, Gg1237⟩ := id V1224
      have hin1237 : ¬ ((0 : Int32) < 0 ∨ cl1237.slots.size ≤ ((0 : Int32)).toNatClampNeg) := inb_of Sz1237 ⟨by decide, by decide⟩
      obtain ⟨T1237, h1237, X1237, e1237, W1237, st1237⟩ := stC X1224 hx hZ e1224 Ar1237 (j := (0 : Int32)) hin1237 (g := (mkF m 590 #[lv p1, .second, lv p2, .second, lv p3, .second, lv p4, .second, iv p5, iv p6, rv b1, iv z1, iv z2, iv oi, iv oj, iv ch0, iv ch1, iv ch2, iv zB, iv 7, iv 3, rv b17, iv z1, rv b1130, lv p1, .second, lv p2, .second, lv p3, .second, lv p4, .second, rv (own_o w oj), rv b1143, iv ze, .unset] [(.int ch0), (.int 0), (.ref b1224), (.ref b1224), (.ref b1211), (.ref b1211)])) rfl rfl (hb hby at_590)
      have V1237 : Arv Z h1237 b1224 k1224 .char (1 : Int32) [(.int (nar .char ch0))] (.int 0) := Arv.set Ar1237 Cq1237 Sz1237 Nn1237 Hh1237 Gg1237 (fits_nar_char _) W1237 0 rfl (Nat.le_of_ble_eq_true rfl)
      rw [hn_ch0] at V1237
      have K1237 : Keep h0 h1237 [] := Keep.wr K1224 W1237 (Or.inr sz_b1224)
      have Z1237 : n0 ≤ h1237.size := Nat.le_trans Z1224 (Keep.of_wr W1237).1
      have N1237 := Fr.snoc X1237 N1182 g_b1224
      refine Goes.by st1237 ?_
      show Goes p e below (T1237.setTop (mkF m 591 #[lv p1, .second, lv p2, .second, lv p3, .second, lv p4, .second, iv p5, iv p6, rv b1, iv z1, iv z2, iv oi, iv oj, iv ch0, iv ch1, iv ch2, iv zB, iv 7, iv 3, rv b17, iv z1, rv b1130, lv p1, .second, lv p2, .second, lv p3, .second, lv p4, .second, rv (own_o w oj), rv b1143, iv ze, .unset] [(.ref b1224), (.ref b1211), (.ref b1211)])) _
      have f1238 := (Exa.wr W1237 (A1211.ext E1224))
      have f1239 := (Fld.other W1237 (F1211_value.ext E1224) (Or.inl ne1224_b1211))
      have f1240 := (Fld.other W1237 (F1211_coder.ext E1224) (Or.inl ne1224_b1211))
      have f1241 := (Sta.wr W1237 (((own_staKeep (own_staKeep f1162 Kq1173 (allS (own_nsE A1151) all0)) Kq1182 (allS (own_nsE f1174) all0)).ext E1211).ext E1224))
      have f1242 := (Exa.wr W1237 (f1225.ext E1224))
      have f1243 := (Exa.wr W1237 (f1226.ext E1224))
      have f1244 := (Exa.wr W1237 (f1227.ext E1224))
      have f1245 := ((f1228.ext E1224).other W1237 ne1224_b1)
      have f1246 := (Exa.wr W1237 (f1229.ext E1224))
      have f1247 := (Exa.wr W1237 (f1230.ext E1224))
      have f1248 := ((f1231.ext E1224).other W1237 ne1224_b26)
      have f1249 := ((f1232.ext E1224).other W1237 ne1224_t44)
      have f1250 := ((f1233.ext E1224).other W1237 ne1224_b1130)
      have f1251 := (Exa.wr W1237 (f1234.ext E1224))
      have f1252 := (Exa.wr W1237 (f1235.ext E1224))
      have f1253 := ((f1236.ext E1224).other W1237 ne1224_t1173)
      have hp1254 : ∀ c ∈ ([ch0] : List Int32), ¬ c < 0 ∧ ¬ (255 : Int32) < c := by
        intro c hc; simp only [List.mem_cons, List.not_mem_nil, or_false] at hc
        rw [hc]; exact hb_ch0
      have hcd1254 : StrChars.Road.CodA ([ch0] : List Int32) 0 (1 : Int32) ((([ch0] : List Int32).map (fun c => c.toInt8.toInt32)).map Value.int) := StrChars.Road.codOf (n := 1) rfl (fun c hc => (hp1254 c hc).2)
      have hbd1254 := own_up _ hp1254
      obtain ⟨_, _, ⟨T1255, L1255, k1255, n1255⟩, -, X1255, ⟨Lc1255, hQ1255, l1255, y1255, z1255⟩, st1255⟩ := X1237.specialBack hx (y := (⟨"java/lang/String", "<init>", "([C)V"⟩ : MethodName)) rfl hown (mvT hZ (wd hw 17 rfl)) (mvT hZ (wd hw 18 rfl)) (mvT hZ (wd hw 19 rfl)) (by decide) (StrChars.Road.backV (W := 1) hZ hws (kI := 4) (wd hw 14 rfl) (cs := ([ch0] : List Int32)) (bs := (([ch0] : List Int32).map (fun c => c.toInt8.toInt32))) (n := 1) g_b1211 Z1237 f1238 f1239 f1240 V1237 f1241 hzc rfl rfl (by decide) (by decide) hp1254 rfl (by decide) (by decide)) (g := (mkF m 591 #[lv p1, .second, lv p2, .second, lv p3, .second, lv p4, .second, iv p5, iv p6, rv b1, iv z1, iv z2, iv oi, iv oj, iv ch0, iv ch1, iv ch2, iv zB, iv 7, iv 3, rv b17, iv z1, rv b1130, lv p1, .second, lv p2, .second, lv p3, .second, lv p4, .second, rv (own_o w oj), rv b1143, iv ze, .unset] [(.ref b1224), (.ref b1211), (.ref b1211)])) rfl (by rw [hml]; rfl) (Steps.refl _) (a := b1211) (argsL := [(.ref b1224)]) (rest := [(.ref b1211)]) (lenOf pd0 rfl) rfl (by show 2 * 0 + _ ≤ _; exact Nat.le_of_eq rfl) (hb hby at_591) (fun _ _ => ⟨rfl, e1237, (by decide : 11 + 1 ≤ _), (by decide : 38 + 1 ≤ _)⟩)
      dsimp only [Pt.U, Pt.locs, Pt.cells, Pt.slots] at X1255 l1255 y1255 z1255 st1255 hQ1255
      subst l1255 y1255 z1255
      obtain ⟨rfl, Nq1255, Kq1255, gE1255, gC1255, t1255, kb1255, u1_1255, u2_1255, u3_1255, gV1255, gA1255⟩ := hQ1255
      have K1255 : Keep h0 T1255.heap [] := Keep.trans K1237 Kq1255 (allS (Or.inr sz_b1211) all0)
      have Z1255 : n0 ≤ T1255.heap.size := Nat.le_trans Z1237 Kq1255.1
      have net1255__w_0_ : (w 0) ≠ t1255 := Nat.ne_of_lt (Nat.lt_of_lt_of_le f1242.lt u2_1255)
      have net1255__w_1_ : (w 1) ≠ t1255 := Nat.ne_of_lt (Nat.lt_of_lt_of_le f1243.lt u2_1255)
      have net1255__w_2_ : (w 2) ≠ t1255 := Nat.ne_of_lt (Nat.lt_of_lt_of_le f1244.lt u2_1255)
      have net1255_b1 : b1 ≠ t1255 := Nat.ne_of_lt (Nat.lt_of_lt_of_le f1245.lt u2_1255)
      have net1255_b17 : b17 ≠ t1255 := Nat.ne_of_lt (Nat.lt_of_lt_of_le f1246.lt u2_1255)
      have net1255_b21 : b21 ≠ t1255 := Nat.ne_of_lt (Nat.lt_of_lt_of_le f1247.lt u2_1255)
      have net1255_b26 : b26 ≠ t1255 := Nat.ne_of_lt (Nat.lt_of_lt_of_le f1248.lt u2_1255)
      have net1255_t44 : t44 ≠ t1255 := Nat.ne_of_lt (Nat.lt_of_lt_of_le f1249.lt u2_1255)
      have net1255_b1130 : b1130 ≠ t1255 := Nat.ne_of_lt (Nat.lt_of_lt_of_le f1250.lt u2_1255)
      have net1255_b1143 : b1143 ≠ t1255 := Nat.ne_of_lt (Nat.lt_of_lt_of_le f1251.lt u2_1255)
      have net1255_b1151 : b1151 ≠ t1255 := Nat.ne_of_lt (Nat.lt_of_lt_of_le f1252.lt u2_1255)
      have net1255_t1173 : t1173 ≠ t1255 := Nat.ne_of_lt (Nat.lt_of_lt_of_le f1253.lt u2_1255)
      have net1255_b1211 : b1211 ≠ t1255 := Nat.ne_of_lt (Nat.lt_of_lt_of_le f1238.lt u2_1255)
      have net1255_b1224 : b1224 ≠ t1255 := Nat.ne_of_lt (Nat.lt_of_lt_of_le V1237.lt u2_1255)
      have g_t1255 : n0 ≤ t1255 := Nat.le_trans Z1237 u2_1255
      have sz_t1255 : h0.size ≤ t1255 := Nat.le_trans K1237.1 u2_1255
      have N1255 := Fr.app N1237 Nq1255
      refine Goes.tr st1255 ?_
      refine Goes.by (fun _ kz => XS.astore X1255.here hx rfl (hb hby at_594) rfl rfl rfl (XS.aload X1255.here hx rfl (hb hby at_596) rfl rfl (XS.aload X1255.here hx rfl (hb hby at_598) rfl rfl kz))) ?_
      have f1256 := (f1238.keep Kq1255)
      have f1258 := (f1246.keep Kq1255)
      obtain ⟨cq1257, kq1257, q1257a, q1257b, q1257c⟩ := isOf hZ rfl f1258
      obtain ⟨_, _, ⟨T1257, L1257, k1257, n1257⟩, -, X1257, ⟨Lc1257, hQ1257, l1257, y1257, z1257⟩, st1257⟩ := X1255.virtualBack hx (y := (⟨"com/example/killdeer/killdeer/GadgetView", "equals", "(Ljava/lang/Object;)Z"⟩ : MethodName)) (z := (⟨"com/example/killdeer/killdeer/GadgetView", "equals", "(Ljava/lang/Object;)Z"⟩ : MethodName)) hown (mvT hZ (wd hw 61 rfl)) (mvT hZ (wd hw 62 rfl)) (notFace_of_selects (args := #[]) (mvT hZ (wd hw 64 rfl))) (mvT hZ (wd hw 64 rfl)) (mvT hZ (wd hw 63 rfl)) (by decide) (backOf (W := 0) (r8_str l Z a0 hw [] T1255.heap n0 Z1255 b17 b1211 f1256 ne1211_b17) hZ (wd hw 65 rfl) (wd hw 12 rfl) (by decide) (by decide)) q1257a q1257c (g := (mkF m 600 #[lv p1, .second, lv p2, .second, lv p3, .second, lv p4, .second, iv p5, iv p6, rv b1, iv z1, iv z2, iv oi, iv oj, iv ch0, iv ch1, iv ch2, iv zB, iv 7, iv 3, rv b17, iv z1, rv b1130, lv p1, .second, lv p2, .second, lv p3, .second, lv p4, .second, rv (own_o w oj), rv b1143, iv ze, rv b1211] [(.ref b1211), (.ref b17)])) rfl (by rw [hml]; rfl) (Steps.refl _) (argsL := [(.ref b1211)]) (rest := []) (lenOf pd2 rfl) rfl (by show 2 * 0 + _ ≤ _; exact Nat.le_of_eq rfl) (hb hby at_600) (fun _ _ => ⟨rfl, rfl, (by decide : 12 + 0 ≤ _), (by decide : 39 + 0 ≤ _)⟩)
      dsimp only [Pt.U, Pt.locs, Pt.cells, Pt.slots] at X1257 l1257 y1257 z1257 st1257 hQ1257
      subst l1257 y1257 z1257
      obtain ⟨rfl, Nq1257, e1257⟩ := hQ1257
      have N1257 := Fr.app N1255 Nq1257
      refine Goes.tr st1257 ?_
      refine Goes.by (fun _ kz => XS.ifNo X1257.here hx rfl (hb hby at_603) rfl ((if0 _ _).trans (teq (by decide : (0 : Int32) = (0 : Int32))).2) (XS.iconst X1257.here hx rfl (hb hby at_606) (XS.goto X1257.here hx rfl (pc0 := 607) (pc' := 611) rfl (hb hby at_607) (by decide) (by decide) kz))) ?_
      show Goes p e below (T1257.setTop (mkF m 611 #[lv p1, .second, lv p2, .second, lv p3, .second, lv p4, .second, iv p5, iv p6, rv b1, iv z1, iv z2, iv oi, iv oj, iv ch0, iv ch1, iv ch2, iv zB, iv 7, iv 3, rv b17, iv z1, rv b1130, lv p1, .second, lv p2, .second, lv p3, .second, lv p4, .second, rv (own_o w oj), rv b1143, iv ze, rv b1211] [(.int 1)])) _
      obtain ⟨fs, hr, hrun, hended, hW, hsame⟩ := X1257.leave (v := some (.int 1)) (fun h => by rw [Bd.returns] at h; cases h)
      exact ⟨_, _, retN X1257 hx (t := .boolean) Bd.returns (by simp) (hb hby at_611) hr, hrun, hended, _, _, rfl, ⟨rfl, N1257⟩, ⟨_, rfl⟩, hW, hsame.mono (by decide) (by decide)⟩
set_option maxRecDepth 65536 in
set_option maxHeartbeats 40000000 in
theorem comes_1 {Post : Tables → Env → Array Value → State → Outcome → State → Prop} (hpost : ∀ tb e args s v u, (limb_1_1.after args s (.returned v) u = true ∧ limb_1_2.after args s (.returned v) u = true ∧ True) → FrameEnd s (.returned v) u (Jvm.fieldLocs frame_1_writes args s ++ Jvm.arrayLocs frame_1_arrays args s ++ Jvm.staticLocs frame_1_statics s) 32 192 → Post tb e args s (.returned v) u) :
    ArmFor flags0 classFile x code maxLocals ret World_1 tables_1 room_1 Calls_1 rest_1 Pre_1 Post := by
  intro l hfl _ _ p e ha hc hk s m args below hf hA hF happ hP
  obtain ⟨hcalls, hrest, hpre⟩ := hP
  obtain ⟨-, -, -, hnamed, -, -, -, hat⟩ := (Spec.applies_iff hf).mp happ
  obtain ⟨hg, hn⟩ := and_e (Cond.before_iff.mp (show (Jvm.Cond.and given_1 narrow_1).before args s = true from hpre))
  obtain ⟨a1, b1⟩ := and_e hg
  obtain ⟨a2, b2⟩ := and_e b1
  obtain ⟨a3, b3⟩ := and_e b2
  obtain ⟨a4, b4⟩ := and_e b3
  obtain ⟨a5, b5⟩ := and_e b4
  obtain ⟨a6, b6⟩ := and_e b5
  obtain ⟨w0, w1, w2, w3, w4, w5, rfl⟩ : ∃ w0 w1 w2 w3 w4 w5 : Value, args = #[w0, w1, w2, w3, w4, w5] := by
    have hs : args.size = 6 := by simpa [Cond.value, given_1] using a1
    obtain ⟨L⟩ := args
    match L, hs with
    | [w0, w1, w2, w3, w4, w5], _ => exact ⟨w0, w1, w2, w3, w4, w5, rfl⟩
  have hw := fun d (hd : d ∈ tables_1) => atoms_spec (ws := Jvm.Cond.code x code maxLocals ret :: tables_1) hat d (List.mem_cons_of_mem _ hd)
  obtain ⟨i0, ei0⟩ := isL_v a2
  obtain rfl : w0 = (.long i0) := Option.some.inj ei0
  obtain ⟨i1, ei1⟩ := isL_v a3
  obtain rfl : w1 = (.long i1) := Option.some.inj ei1
  obtain ⟨i2, ei2⟩ := isL_v a4
  obtain rfl : w2 = (.long i2) := Option.some.inj ei2
  obtain ⟨i3, ei3⟩ := isL_v a5
  obtain rfl : w3 = (.long i3) := Option.some.inj ei3
  obtain ⟨i4, ei4⟩ := is_v a6
  obtain rfl : w4 = (.int i4) := Option.some.inj ei4
  obtain ⟨i5, ei5⟩ := is_v b6
  obtain rfl : w5 = (.int i5) := Option.some.inj ei5
  obtain ⟨q0, t0⟩ := and_e hn
  obtain ⟨q1, t1⟩ := and_e t0
  obtain ⟨q2, t2⟩ := and_e t1
  obtain ⟨q3, t3⟩ := and_e t2
  obtain ⟨q4, t4⟩ := and_e t3
  have q5 := t4
  obtain ⟨v0, ev0⟩ := exa_v q0
  have S0 := Sta.start ev0 (Or.inr ⟨(wd hw 3 rfl), (wd hw 4 rfl)⟩)
  have E0 := Exa.start ev0 q0
  obtain ⟨v1, ev1⟩ := exa_v q1
  have S1 := Sta.start ev1 (Or.inr ⟨(wd hw 3 rfl), (wd hw 7 rfl)⟩)
  have E1 := Exa.start ev1 q1
  obtain ⟨v2, ev2⟩ := exa_v q2
  have S2 := Sta.start ev2 (Or.inr ⟨(wd hw 3 rfl), (wd hw 9 rfl)⟩)
  have E2 := Exa.start ev2 q2
  have F3 := own_fldI ev2 q3
  have F4 := own_fldI ev0 q4
  have F5 := own_fldI ev1 q5
  have P : Pins s s.heap (fun i => [v0, v1, v2].getD i 0) := ⟨S0, E0, S1, E1, S2, E2, F3, F4, F5⟩
  obtain ⟨hsets, hown0⟩ := atoms_of _ (rest_1_c_eq ▸ (show rest_1_c.before _ s = true from hrest))
  have n3 := not_v (Cond.before_iff.mp (hsets _ (List.mem_of_getElem? (i := 2) rfl)))
  obtain ⟨zc, ez⟩ := is_v (Cond.before_iff.mp (hsets _ (List.mem_of_getElem? (i := 1) rfl)))
  have Sc : Sta s s.heap "java/lang/String" "COMPACT_STRINGS" "Z" (.int zc) := Sta.start ez (Or.inl (hsets _ (List.mem_of_getElem? (i := 0) rfl)))
  have hzc : ¬ (zc = (0 : Int32)) := gotF (Cond.eq_ints ez (Term.int_eval (0))) n3
  obtain ⟨n, o, h1, h2, h3, _, L, rfl, ⟨rfl, N⟩, hq⟩ := rm0 l s _ hw tables_1 s.heap s.heap.size (Nat.le_refl _) i0 i1 i2 i3 i4 i5 (fun i => [v0, v1, v2].getD i 0) zc P Sc hzc p e ha hc hk s m _ below hf ((Spec.applies_iff_loose hf).mp happ).1 ⟨rfl, State.Warmed39.refl s, rfl⟩ trivial
  refine ⟨n, _, h1, h2, h3, hpost _ _ _ _ _ _ ⟨Cond.after_iff.mpr rfl, Cond.after_iff.mpr (eq_i res_at (Term.int_eval (1)) rfl), trivial⟩ ⟨hq.1, hq.2.1, (hq.2.2.sift fun y hy => Or.inr (N y hy)).mono (by decide) (by decide)⟩⟩
theorem main_1_1 : Claimed_1_1 := comes_1 fun _ _ _ _ _ _ h hF => ⟨h.1, hF⟩
theorem main_1_2 : Claimed_1_2 := comes_1 fun _ _ _ _ _ _ h hF => ⟨h.2.1, hF⟩
end Jvm.Pilot.@@N@@
namespace Jvm.Pilot.@@N@@
open Jvm Jvm.ClassFile Sem Op Lib Jvm.Free Jvm.Stand Jvm.Pilot.@@N@@.Jvm.D
/-! MADE BY PROGRAM (witnessworld.py) out of the Statement's table words and the real class files: 24 classes; the members and pool entries that the words name. The judged class is class 1, her method 1. -/
namespace start1
open Jvm.ClassFile
def u (s : String) : CpInfo := .utf8 (stringToUtf16 s)
/-- a pool by its gaps: so many unusable entries, then the entry; so many at the end -/
def gap : Nat → List CpInfo → List CpInfo
  | 0, r => r
  | n + 1, r => .unusable :: gap n r
def poolList (es : List (Nat × CpInfo)) (last : Nat) : List CpInfo := es.foldr (fun e r => gap e.1 (e.2 :: r)) (gap last [])
def pool (es : List (Nat × CpInfo)) (last : Nat) : Array CpInfo := ⟨poolList es last⟩
def fileOf (pool : Array CpInfo) (this : Nat) (attrs : Array Attribute := #[]) (ms : Array MethodInfo := #[]) (fl : Nat := 33) (sup : Nat := 0) (ifs : Array Nat := #[]) (fds : Array FieldInfo := #[]) : ClassFile where
  minorVersion := 0
  majorVersion := 65
  constantPool := pool
  accessFlags := fl
  thisClass := this
  superClass := sup
  interfaces := ifs
  fields := fds
  methods := ms
  attributes := attrs
def plain (name : String) (sup : Option ClassId) : Class where
  name := name
  kind := .ordinary
  loader := none
  accessFlags := 33
  super := sup
  interfaces := #[]
  cf := none
  fields := #[]
  methods := #[]
  instanceTypes := #[]
  staticTypes := #[]
  resolved := #[]
  callSites := []
  init := .initialized
  statics := none
  mirror := none

def pool0 : Array CpInfo := pool [(5, u "<init>"), (0, u "()V"), (1, .class_ 10), (1, u "java/lang/Object")] 113

def k0c0 : Code := { maxStack := 0, maxLocals := 1, code := object_method_1_code, exceptionTable := #[], attributes := #[] }
def k0m0 : Method := { name := "<init>", desc := "()V", sig := { parameters := [], returnType := none }, accessFlags := 1, code := some k0c0 }
/-- java/lang/Object -/
def k0 : Class := { plain "java/lang/Object" none with
  accessFlags := 33
  interfaces := #[]
  cf := some (fileOf pool0 8 #[] #[{ accessFlags := 1, nameIndex := 5, descriptorIndex := 6, attributes := #[] }] 33 0 #[] #[])
  fields := #[]
  methods := #[k0m0]
  instanceTypes := #[]
  staticTypes := #[]
  resolved := Array.replicate 124 none
  statics := none }

def pool1 : Array CpInfo := pool [(2, .class_ 4), (1, u "java/lang/Object"), (0, u "<init>"), (0, u "()V"), (0, .class_ 8), (0, u "com/example/killdeer/killdeer/GadgetView$Obscured"), (0, .fieldref 7 10), (0, .nameAndType 11 12), (0, u "NONE"), (0, u "Lcom/example/killdeer/killdeer/GadgetView$Obscured;"), (0, .fieldref 7 14), (0, .nameAndType 15 12), (0, u "PARTIAL"), (0, .fieldref 7 17), (0, .nameAndType 18 12), (0, u "FULL"), (0, .class_ 20), (0, u "com/example/killdeer/killdeer/GadgetView"), (0, .class_ 22), (0, u "java/lang/String"), (0, .methodref 21 24), (0, .nameAndType 5 25), (0, u "([C)V"), (0, .methodref 19 27), (0, .nameAndType 5 28), (0, u "(ZLjava/lang/String;JJJJLcom/example/killdeer/killdeer/GadgetView$Obscured;)V"), (0, .methodref 19 30), (0, .nameAndType 31 32), (0, u "equals"), (0, u "(Ljava/lang/Object;)Z"), (0, .class_ 34), (0, u "com/example/killdeer/killdeer/GadgetViewEqualsPinLaw"), (2, u "law"), (0, u "(JJJJII)Z")] 9

def k1m0 : Method := { name := "<init>", desc := "()V", sig := { parameters := [], returnType := none }, accessFlags := 1, code := none }
def k1c1 : Code := { maxStack := 14, maxLocals := 36, code := code, exceptionTable := #[], attributes := #[] }
def k1m1 : Method := { name := "law", desc := "(JJJJII)Z", sig := { parameters := [.long, .long, .long, .long, .int, .int], returnType := some .boolean }, accessFlags := 9, code := some k1c1 }
/-- com/example/killdeer/killdeer/GadgetViewEqualsPinLaw -/
def k1 : Class := { plain "com/example/killdeer/killdeer/GadgetViewEqualsPinLaw" (some 0) with
  accessFlags := 49
  interfaces := #[]
  cf := some (fileOf pool1 33 #[] #[{ accessFlags := 1, nameIndex := 5, descriptorIndex := 6, attributes := #[] }, { accessFlags := 9, nameIndex := 37, descriptorIndex := 38, attributes := #[] }] 49 2 #[] #[])
  fields := #[]
  methods := #[k1m0, k1m1]
  instanceTypes := #[]
  staticTypes := #[]
  resolved := Array.replicate 48 none
  statics := none }

def pool2 : Array CpInfo := pool [(1, .class_ 2), (0, u "java/lang/constant/Constable"), (0, .class_ 4), (0, u "java/lang/Object")] 6

/-- java/lang/constant/Constable -/
def k2 : Class := { plain "java/lang/constant/Constable" (some 0) with
  accessFlags := 1537
  interfaces := #[]
  cf := some (fileOf pool2 1 #[] #[] 1537 3 #[] #[])
  fields := #[]
  methods := #[]
  instanceTypes := #[]
  staticTypes := #[]
  resolved := Array.replicate 11 none
  statics := none }

def pool3 : Array CpInfo := pool [(1, .class_ 2), (0, u "java/lang/Comparable"), (0, .class_ 4), (0, u "java/lang/Object")] 7

/-- java/lang/Comparable -/
def k3 : Class := { plain "java/lang/Comparable" (some 0) with
  accessFlags := 1537
  interfaces := #[]
  cf := some (fileOf pool3 1 #[] #[] 1537 3 #[] #[])
  fields := #[]
  methods := #[]
  instanceTypes := #[]
  staticTypes := #[]
  resolved := Array.replicate 12 none
  statics := none }

def pool4 : Array CpInfo := pool [(1, .class_ 2), (0, u "java/io/Serializable"), (0, .class_ 4), (0, u "java/lang/Object")] 2

/-- java/io/Serializable -/
def k4 : Class := { plain "java/io/Serializable" (some 0) with
  accessFlags := 1537
  interfaces := #[]
  cf := some (fileOf pool4 1 #[] #[] 1537 3 #[] #[])
  fields := #[]
  methods := #[]
  instanceTypes := #[]
  staticTypes := #[]
  resolved := Array.replicate 7 none
  statics := none }

def pool5 : Array CpInfo := pool [(2, .class_ 4), (1, u "java/lang/Enum"), (0, u "name"), (0, u "Ljava/lang/String;"), (2, u "ordinal"), (0, u "I"), (1, .class_ 14), (1, u "java/lang/Object"), (4, u "hash"), (86, .class_ 108), (1, u "java/lang/Enum$EnumDesc"), (2, .class_ 112), (0, u "java/lang/constant/Constable"), (0, .class_ 114), (0, u "java/lang/Comparable"), (0, .class_ 116), (0, u "java/io/Serializable")] 87

/-- java/lang/Enum -/
def k5 : Class := { plain "java/lang/Enum" (some 0) with
  accessFlags := 1057
  interfaces := #[2, 3, 4]
  cf := some (fileOf pool5 2 #[.nestMembers #[106]] #[] 1057 12 #[111, 113, 115] #[{ accessFlags := 18, nameIndex := 5, descriptorIndex := 6, attributes := #[] }, { accessFlags := 18, nameIndex := 9, descriptorIndex := 10, attributes := #[] }, { accessFlags := 2, nameIndex := 19, descriptorIndex := 10, attributes := #[] }])
  fields := #[{ name := "name", type := (.object "java/lang/String"), accessFlags := 18, slot := 0, constantValue := 0 }, { name := "ordinal", type := .int, accessFlags := 18, slot := 1, constantValue := 0 }, { name := "hash", type := .int, accessFlags := 2, slot := 2, constantValue := 0 }]
  methods := #[]
  instanceTypes := #[(.object "java/lang/String"), .int, .int]
  staticTypes := #[]
  resolved := Array.replicate 204 none
  statics := none }

def pool6 : Array CpInfo := pool [(9, .class_ 10), (0, u "com/example/killdeer/killdeer/Keyword"), (20, .class_ 32), (0, u "java/lang/Object")] 9

/-- com/example/killdeer/killdeer/Keyword -/
def k6 : Class := { plain "com/example/killdeer/killdeer/Keyword" (some 0) with
  accessFlags := 1537
  interfaces := #[]
  cf := some (fileOf pool6 9 #[] #[] 1537 31 #[] #[])
  fields := #[]
  methods := #[]
  instanceTypes := #[]
  staticTypes := #[]
  resolved := Array.replicate 42 none
  statics := none }

def pool7 : Array CpInfo := pool [(1, .class_ 2), (0, u "com/example/killdeer/killdeer/GadgetView$Obscured"), (2, u "NONE"), (0, u "Lcom/example/killdeer/killdeer/GadgetView$Obscured;"), (2, u "PARTIAL"), (2, u "FULL"), (2, u "$VALUES"), (0, u "[Lcom/example/killdeer/killdeer/GadgetView$Obscured;"), (6, .class_ 25), (1, u "java/lang/Enum"), (8, u "word"), (0, u "Ljava/lang/String;"), (16, .class_ 53), (0, u "com/example/killdeer/killdeer/Keyword"), (15, .class_ 70), (0, u "com/example/killdeer/killdeer/GadgetView")] 2

/-- com/example/killdeer/killdeer/GadgetView$Obscured -/
def k7 : Class := { plain "com/example/killdeer/killdeer/GadgetView$Obscured" (some 5) with
  accessFlags := 16433
  interfaces := #[6]
  cf := some (fileOf pool7 1 #[.nestHost 69] #[] 16433 23 #[52] #[{ accessFlags := 16409, nameIndex := 5, descriptorIndex := 6, attributes := #[] }, { accessFlags := 16409, nameIndex := 9, descriptorIndex := 6, attributes := #[] }, { accessFlags := 16409, nameIndex := 12, descriptorIndex := 6, attributes := #[] }, { accessFlags := 18, nameIndex := 34, descriptorIndex := 35, attributes := #[] }, { accessFlags := 4122, nameIndex := 15, descriptorIndex := 16, attributes := #[] }])
  fields := #[{ name := "NONE", type := (.object "com/example/killdeer/killdeer/GadgetView$Obscured"), accessFlags := 16409, slot := 0, constantValue := 0 }, { name := "PARTIAL", type := (.object "com/example/killdeer/killdeer/GadgetView$Obscured"), accessFlags := 16409, slot := 1, constantValue := 0 }, { name := "FULL", type := (.object "com/example/killdeer/killdeer/GadgetView$Obscured"), accessFlags := 16409, slot := 2, constantValue := 0 }, { name := "word", type := (.object "java/lang/String"), accessFlags := 18, slot := 3, constantValue := 0 }, { name := "$VALUES", type := (.array (.object "com/example/killdeer/killdeer/GadgetView$Obscured")), accessFlags := 4122, slot := 3, constantValue := 0 }]
  methods := #[]
  instanceTypes := #[(.object "java/lang/String"), .int, .int, (.object "java/lang/String")]
  staticTypes := #[(.object "com/example/killdeer/killdeer/GadgetView$Obscured"), (.object "com/example/killdeer/killdeer/GadgetView$Obscured"), (.object "com/example/killdeer/killdeer/GadgetView$Obscured"), (.array (.object "com/example/killdeer/killdeer/GadgetView$Obscured"))]
  resolved := Array.replicate 73 none
  statics := some 0 }

def pool8 : Array CpInfo := pool [(1, .methodref 2 3), (0, .class_ 4), (0, .nameAndType 5 6), (0, u "java/lang/Object"), (0, u "<init>"), (0, u "()V"), (0, .fieldref 8 9), (0, .class_ 10), (0, .nameAndType 11 12), (0, u "com/example/killdeer/killdeer/GadgetView"), (0, u "visible"), (0, u "Z"), (0, .fieldref 8 14), (0, .nameAndType 15 16), (0, u "appearance"), (0, u "Ljava/lang/String;"), (0, .fieldref 8 18), (0, .nameAndType 19 20), (0, u "x"), (0, u "J"), (0, .fieldref 8 22), (0, .nameAndType 23 20), (0, u "y"), (0, .fieldref 8 25), (0, .nameAndType 26 20), (0, u "width"), (0, .fieldref 8 28), (0, .nameAndType 29 20), (0, u "height"), (0, .fieldref 8 31), (0, .nameAndType 32 33), (0, u "obscured"), (0, u "Lcom/example/killdeer/killdeer/GadgetView$Obscured;"), (1, .class_ 37), (1, u "com/example/killdeer/killdeer/GadgetView$Obscured"), (1, .methodref 40 41), (0, .class_ 42), (0, .nameAndType 43 44), (0, u "java/lang/String"), (0, u "equals"), (0, u "(Ljava/lang/Object;)Z"), (17, u "(ZLjava/lang/String;JJJJLcom/example/killdeer/killdeer/GadgetView$Obscured;)V")] 14

def k8c0 : Code := { maxStack := 3, maxLocals := 12, code := prog_16_method_1_code, exceptionTable := #[], attributes := #[] }
def k8m0 : Method := { name := "<init>", desc := "(ZLjava/lang/String;JJJJLcom/example/killdeer/killdeer/GadgetView$Obscured;)V", sig := { parameters := [.boolean, (.object "java/lang/String"), .long, .long, .long, .long, (.object "com/example/killdeer/killdeer/GadgetView$Obscured")], returnType := none }, accessFlags := 1, code := some k8c0 }
def k8c1 : Code := { maxStack := 4, maxLocals := 3, code := prog_16_method_4_code, exceptionTable := #[], attributes := #[] }
def k8m1 : Method := { name := "equals", desc := "(Ljava/lang/Object;)Z", sig := { parameters := [(.object "java/lang/Object")], returnType := some .boolean }, accessFlags := 1, code := some k8c1 }
/-- com/example/killdeer/killdeer/GadgetView -/
def k8 : Class := { plain "com/example/killdeer/killdeer/GadgetView" (some 0) with
  accessFlags := 33
  interfaces := #[]
  cf := some (fileOf pool8 8 #[.nestMembers #[35]] #[{ accessFlags := 1, nameIndex := 5, descriptorIndex := 62, attributes := #[] }, { accessFlags := 1, nameIndex := 43, descriptorIndex := 44, attributes := #[] }] 33 2 #[] #[{ accessFlags := 18, nameIndex := 11, descriptorIndex := 12, attributes := #[] }, { accessFlags := 18, nameIndex := 15, descriptorIndex := 16, attributes := #[] }, { accessFlags := 18, nameIndex := 19, descriptorIndex := 20, attributes := #[] }, { accessFlags := 18, nameIndex := 23, descriptorIndex := 20, attributes := #[] }, { accessFlags := 18, nameIndex := 26, descriptorIndex := 20, attributes := #[] }, { accessFlags := 18, nameIndex := 29, descriptorIndex := 20, attributes := #[] }, { accessFlags := 18, nameIndex := 32, descriptorIndex := 33, attributes := #[] }])
  fields := #[{ name := "visible", type := .boolean, accessFlags := 18, slot := 0, constantValue := 0 }, { name := "appearance", type := (.object "java/lang/String"), accessFlags := 18, slot := 1, constantValue := 0 }, { name := "x", type := .long, accessFlags := 18, slot := 2, constantValue := 0 }, { name := "y", type := .long, accessFlags := 18, slot := 3, constantValue := 0 }, { name := "width", type := .long, accessFlags := 18, slot := 4, constantValue := 0 }, { name := "height", type := .long, accessFlags := 18, slot := 5, constantValue := 0 }, { name := "obscured", type := (.object "com/example/killdeer/killdeer/GadgetView$Obscured"), accessFlags := 18, slot := 6, constantValue := 0 }]
  methods := #[k8m0, k8m1]
  instanceTypes := #[.boolean, (.object "java/lang/String"), .long, .long, .long, .long, (.object "com/example/killdeer/killdeer/GadgetView$Obscured")]
  staticTypes := #[]
  resolved := Array.replicate 77 none
  statics := none }

def pool9 : Array CpInfo := pool [(2, .class_ 4), (1, u "java/lang/CharSequence"), (42, .class_ 48), (0, u "java/lang/CharSequence$1CodePointIterator"), (10, .class_ 60), (0, u "java/lang/CharSequence$1CharIterator"), (5, .class_ 67), (0, u "java/lang/Object")] 63

/-- java/lang/CharSequence -/
def k9 : Class := { plain "java/lang/CharSequence" (some 0) with
  accessFlags := 1537
  interfaces := #[]
  cf := some (fileOf pool9 2 #[.nestMembers #[47, 59]] #[] 1537 66 #[] #[])
  fields := #[]
  methods := #[]
  instanceTypes := #[]
  staticTypes := #[]
  resolved := Array.replicate 131 none
  statics := none }

def pool10 : Array CpInfo := pool [(1, .class_ 2), (0, u "java/lang/constant/ConstantDesc"), (0, .class_ 4), (0, u "java/lang/Object")] 32

/-- java/lang/constant/ConstantDesc -/
def k10 : Class := { plain "java/lang/constant/ConstantDesc" (some 0) with
  accessFlags := 1537
  interfaces := #[]
  cf := some (fileOf pool10 1 #[] #[] 1537 3 #[] #[])
  fields := #[]
  methods := #[]
  instanceTypes := #[]
  staticTypes := #[]
  resolved := Array.replicate 37 none
  statics := none }

def pool11 : Array CpInfo := pool [(1, .methodref 2 3), (0, .class_ 4), (0, .nameAndType 5 6), (0, u "java/lang/Object"), (0, u "<init>"), (0, u "()V"), (2, .fieldref 10 11), (0, .class_ 12), (0, .nameAndType 13 14), (0, u "java/lang/String"), (0, u "value"), (0, u "[B"), (0, .fieldref 10 16), (0, .nameAndType 17 18), (0, u "coder"), (0, u "B"), (2, u "hash"), (0, u "I"), (2, u "hashIsZero"), (0, u "Z"), (0, .methodref 10 28), (0, .nameAndType 5 29), (0, u "([CIILjava/lang/Void;)V"), (8, .fieldref 10 39), (0, .nameAndType 40 26), (0, u "COMPACT_STRINGS"), (1, .class_ 44), (1, u "java/lang/StringUTF16"), (0, u "compress"), (1, .methodref 42 48), (0, .nameAndType 49 50), (0, u "coderFromArrayLen"), (0, u "([BI)B"), (56, .class_ 109), (1, u "java/lang/StringLatin1"), (67, .methodref 42 178), (0, .nameAndType 45 179), (0, u "([CII)[B"), (361, .methodref 107 542), (0, .nameAndType 543 544), (0, u "equals"), (0, u "([B[B)Z"), (28, u "(Ljava/lang/Object;)Z"), (1, .class_ 576), (0, u "java/lang/CharSequence"), (22, u "CASE_INSENSITIVE_ORDER"), (0, u "Ljava/util/Comparator;"), (409, u "([C)V"), (90, u "serialPersistentFields"), (0, u "[Ljava/io/ObjectStreamField;"), (0, .class_ 1104), (0, u "java/lang/String$CaseInsensitiveComparator"), (1, .class_ 1107), (0, u "java/io/Serializable"), (0, .class_ 1109), (0, u "java/lang/Comparable"), (0, .class_ 1111), (0, u "java/lang/constant/Constable"), (0, .class_ 1113), (0, u "java/lang/constant/ConstantDesc"), (2, u "serialVersionUID"), (0, u "J"), (3, u "REPL"), (0, u "C"), (2, u "LATIN1"), (1, u "UTF16")] 323

def k11m0 : Method := { name := "<init>", desc := "()V", sig := { parameters := [], returnType := none }, accessFlags := 1, code := none }
def k11c1 : Code := { maxStack := 5, maxLocals := 2, code := jdk_42_method_3_code, exceptionTable := #[], attributes := #[] }
def k11m1 : Method := { name := "<init>", desc := "([C)V", sig := { parameters := [(.array .char)], returnType := none }, accessFlags := 1, code := some k11c1 }
def k11c2 : Code := { maxStack := 2, maxLocals := 3, code := jdk_42_method_66_code, exceptionTable := #[], attributes := #[] }
def k11m2 : Method := { name := "equals", desc := "(Ljava/lang/Object;)Z", sig := { parameters := [(.object "java/lang/Object")], returnType := some .boolean }, accessFlags := 1, code := some k11c2 }
def k11c3 : Code := { maxStack := 4, maxLocals := 6, code := jdk_42_method_149_code, exceptionTable := #[], attributes := #[] }
def k11m3 : Method := { name := "<init>", desc := "([CIILjava/lang/Void;)V", sig := { parameters := [(.array .char), .int, .int, (.object "java/lang/Void")], returnType := none }, accessFlags := 2, code := some k11c3 }
/-- java/lang/String -/
def k11 : Class := { plain "java/lang/String" (some 0) with
  accessFlags := 49
  interfaces := #[4, 3, 9, 2, 10]
  cf := some (fileOf pool11 10 #[.nestMembers #[1103]] #[{ accessFlags := 1, nameIndex := 5, descriptorIndex := 6, attributes := #[] }, { accessFlags := 1, nameIndex := 5, descriptorIndex := 1010, attributes := #[] }, { accessFlags := 1, nameIndex := 543, descriptorIndex := 573, attributes := #[] }, { accessFlags := 2, nameIndex := 5, descriptorIndex := 29, attributes := #[] }] 49 2 #[1106, 1108, 575, 1110, 1112] #[{ accessFlags := 18, nameIndex := 13, descriptorIndex := 14, attributes := #[] }, { accessFlags := 18, nameIndex := 17, descriptorIndex := 18, attributes := #[] }, { accessFlags := 2, nameIndex := 21, descriptorIndex := 22, attributes := #[] }, { accessFlags := 2, nameIndex := 25, descriptorIndex := 26, attributes := #[] }, { accessFlags := 26, nameIndex := 1116, descriptorIndex := 1117, attributes := #[] }, { accessFlags := 24, nameIndex := 40, descriptorIndex := 26, attributes := #[] }, { accessFlags := 26, nameIndex := 1101, descriptorIndex := 1102, attributes := #[] }, { accessFlags := 26, nameIndex := 1121, descriptorIndex := 1122, attributes := #[] }, { accessFlags := 25, nameIndex := 599, descriptorIndex := 600, attributes := #[] }, { accessFlags := 24, nameIndex := 1125, descriptorIndex := 18, attributes := #[] }, { accessFlags := 24, nameIndex := 1127, descriptorIndex := 18, attributes := #[] }])
  fields := #[{ name := "value", type := (.array .byte), accessFlags := 18, slot := 0, constantValue := 0 }, { name := "coder", type := .byte, accessFlags := 18, slot := 1, constantValue := 0 }, { name := "hash", type := .int, accessFlags := 2, slot := 2, constantValue := 0 }, { name := "hashIsZero", type := .boolean, accessFlags := 2, slot := 3, constantValue := 0 }, { name := "serialVersionUID", type := .long, accessFlags := 26, slot := 0, constantValue := 0 }, { name := "COMPACT_STRINGS", type := .boolean, accessFlags := 24, slot := 1, constantValue := 0 }, { name := "serialPersistentFields", type := (.array (.object "java/io/ObjectStreamField")), accessFlags := 26, slot := 2, constantValue := 0 }, { name := "REPL", type := .char, accessFlags := 26, slot := 3, constantValue := 0 }, { name := "CASE_INSENSITIVE_ORDER", type := (.object "java/util/Comparator"), accessFlags := 25, slot := 4, constantValue := 0 }, { name := "LATIN1", type := .byte, accessFlags := 24, slot := 5, constantValue := 0 }, { name := "UTF16", type := .byte, accessFlags := 24, slot := 6, constantValue := 0 }]
  methods := #[k11m0, k11m1, k11m2, k11m3]
  instanceTypes := #[(.array .byte), .byte, .int, .boolean]
  staticTypes := #[.long, .boolean, (.array (.object "java/io/ObjectStreamField")), .char, (.object "java/util/Comparator"), .byte, .byte]
  resolved := Array.replicate 1451 none
  statics := some 1 }

def pool12 : Array CpInfo := pool [(6, .class_ 8), (1, u "java/lang/Object"), (0, u "<init>"), (0, u "()V"), (1, .class_ 14), (1, u "java/lang/StringUTF16"), (31, u "$assertionsDisabled"), (0, u "Z"), (13, u "HI_BYTE_SHIFT"), (0, u "I"), (2, u "LO_BYTE_SHIFT"), (49, .methodref 12 116), (0, .nameAndType 117 118), (0, u "compress"), (0, u "([CI[BII)I"), (3, u "([CII)[B"), (138, u "coderFromArrayLen"), (0, u "([BI)B"), (106, .class_ 371), (1, u "java/lang/StringUTF16$LinesSpliterator"), (58, u "MAX_LENGTH"), (196, .class_ 628), (0, u "java/lang/StringUTF16$CodePointsSpliterator"), (0, .class_ 630), (0, u "java/lang/StringUTF16$CharsSpliterator")] 4

def k12m0 : Method := { name := "<init>", desc := "()V", sig := { parameters := [], returnType := none }, accessFlags := 0, code := none }
def k12c1 : Code := { maxStack := 2, maxLocals := 2, code := jdk_52_method_15_code, exceptionTable := #[], attributes := #[] }
def k12m1 : Method := { name := "coderFromArrayLen", desc := "([BI)B", sig := { parameters := [(.array .byte), .int], returnType := some .byte }, accessFlags := 8, code := some k12c1 }
def k12c2 : Code := { maxStack := 5, maxLocals := 6, code := jdk_52_method_16_code, exceptionTable := #[], attributes := #[] }
def k12m2 : Method := { name := "compress", desc := "([CII)[B", sig := { parameters := [(.array .char), .int, .int], returnType := some (.array .byte) }, accessFlags := 9, code := some k12c2 }
def k12c3 : Code := { maxStack := 3, maxLocals := 7, code := jdk_52_method_21_code, exceptionTable := #[], attributes := #[] }
def k12m3 : Method := { name := "compress", desc := "([CI[BII)I", sig := { parameters := [(.array .char), .int, (.array .byte), .int, .int], returnType := some .int }, accessFlags := 9, code := some k12c3 }
/-- java/lang/StringUTF16 -/
def k12 : Class := { plain "java/lang/StringUTF16" (some 0) with
  accessFlags := 48
  interfaces := #[]
  cf := some (fileOf pool12 12 #[.nestMembers #[627, 629, 369]] #[{ accessFlags := 0, nameIndex := 9, descriptorIndex := 10, attributes := #[] }, { accessFlags := 8, nameIndex := 261, descriptorIndex := 262, attributes := #[] }, { accessFlags := 9, nameIndex := 117, descriptorIndex := 122, attributes := #[] }, { accessFlags := 9, nameIndex := 117, descriptorIndex := 118, attributes := #[] }] 48 6 #[] #[{ accessFlags := 26, nameIndex := 61, descriptorIndex := 62, attributes := #[] }, { accessFlags := 26, nameIndex := 65, descriptorIndex := 62, attributes := #[] }, { accessFlags := 24, nameIndex := 430, descriptorIndex := 62, attributes := #[] }, { accessFlags := 4120, nameIndex := 46, descriptorIndex := 47, attributes := #[] }])
  fields := #[{ name := "HI_BYTE_SHIFT", type := .int, accessFlags := 26, slot := 0, constantValue := 0 }, { name := "LO_BYTE_SHIFT", type := .int, accessFlags := 26, slot := 1, constantValue := 0 }, { name := "MAX_LENGTH", type := .int, accessFlags := 24, slot := 2, constantValue := 0 }, { name := "$assertionsDisabled", type := .boolean, accessFlags := 4120, slot := 3, constantValue := 0 }]
  methods := #[k12m0, k12m1, k12m2, k12m3]
  instanceTypes := #[]
  staticTypes := #[.int, .int, .int, .boolean]
  resolved := Array.replicate 635 none
  statics := none }

def pool13 : Array CpInfo := pool [(4, .class_ 6), (1, u "java/lang/Object"), (0, u "<init>"), (0, u "()V"), (5, .class_ 16), (1, u "java/lang/StringLatin1"), (104, u "$assertionsDisabled"), (0, u "Z"), (98, .class_ 223), (1, u "java/lang/StringLatin1$LinesSpliterator"), (57, u "equals"), (0, u "([B[B)Z"), (107, .class_ 391), (0, u "java/lang/StringLatin1$CharsSpliterator")] 3

def k13m0 : Method := { name := "<init>", desc := "()V", sig := { parameters := [], returnType := none }, accessFlags := 0, code := none }
def k13c1 : Code := { maxStack := 3, maxLocals := 3, code := jdk_43_method_13_code, exceptionTable := #[], attributes := #[] }
def k13m1 : Method := { name := "equals", desc := "([B[B)Z", sig := { parameters := [(.array .byte), (.array .byte)], returnType := some .boolean }, accessFlags := 9, code := some k13c1 }
/-- java/lang/StringLatin1 -/
def k13 : Class := { plain "java/lang/StringLatin1" (some 0) with
  accessFlags := 48
  interfaces := #[]
  cf := some (fileOf pool13 14 #[.nestMembers #[390, 221]] #[{ accessFlags := 0, nameIndex := 7, descriptorIndex := 8, attributes := #[] }, { accessFlags := 9, nameIndex := 281, descriptorIndex := 282, attributes := #[] }] 48 4 #[] #[{ accessFlags := 4120, nameIndex := 121, descriptorIndex := 122, attributes := #[] }])
  fields := #[{ name := "$assertionsDisabled", type := .boolean, accessFlags := 4120, slot := 0, constantValue := 0 }]
  methods := #[k13m0, k13m1]
  instanceTypes := #[]
  staticTypes := #[.boolean]
  resolved := Array.replicate 395 none
  statics := none }

def pool14 : Array CpInfo := pool [(2, .class_ 4), (1, u "java/lang/Object"), (0, u "<init>"), (0, u "()V"), (17, .class_ 26), (1, u "jdk/internal/util/Preconditions"), (28, .class_ 56), (0, u "jdk/internal/util/Preconditions$4"), (57, .class_ 115), (0, u "jdk/internal/util/Preconditions$1"), (7, u "SIOOBE_FORMATTER"), (0, u "Ljava/util/function/BiFunction;"), (0, .class_ 126), (0, u "jdk/internal/util/Preconditions$2"), (3, u "AIOOBE_FORMATTER"), (0, .class_ 132), (0, u "jdk/internal/util/Preconditions$3"), (3, u "IOOBE_FORMATTER")] 57

def k14m0 : Method := { name := "<init>", desc := "()V", sig := { parameters := [], returnType := none }, accessFlags := 1, code := none }
/-- jdk/internal/util/Preconditions -/
def k14 : Class := { plain "jdk/internal/util/Preconditions" (some 0) with
  accessFlags := 33
  interfaces := #[]
  cf := some (fileOf pool14 24 #[.nestMembers #[55, 131, 125, 114]] #[{ accessFlags := 1, nameIndex := 5, descriptorIndex := 6, attributes := #[] }] 33 2 #[] #[{ accessFlags := 25, nameIndex := 123, descriptorIndex := 124, attributes := #[] }, { accessFlags := 25, nameIndex := 130, descriptorIndex := 124, attributes := #[] }, { accessFlags := 25, nameIndex := 136, descriptorIndex := 124, attributes := #[] }])
  fields := #[{ name := "SIOOBE_FORMATTER", type := (.object "java/util/function/BiFunction"), accessFlags := 25, slot := 0, constantValue := 0 }, { name := "AIOOBE_FORMATTER", type := (.object "java/util/function/BiFunction"), accessFlags := 25, slot := 1, constantValue := 0 }, { name := "IOOBE_FORMATTER", type := (.object "java/util/function/BiFunction"), accessFlags := 25, slot := 2, constantValue := 0 }]
  methods := #[k14m0]
  instanceTypes := #[]
  staticTypes := #[(.object "java/util/function/BiFunction"), (.object "java/util/function/BiFunction"), (.object "java/util/function/BiFunction")]
  resolved := Array.replicate 194 none
  statics := some 2 }

def pool15 : Array CpInfo := pool [(9, u "<init>"), (6, .class_ 18), (1, u "java/lang/Object"), (0, u "()V"), (1, .class_ 23), (1, u "jdk/internal/util/ArraysSupport"), (0, u "LOG2_ARRAY_LONG_INDEX_SCALE"), (0, u "I"), (2, u "U"), (0, u "Ljdk/internal/misc/Unsafe;"), (8, u "BIG_ENDIAN"), (0, u "Z"), (8, u "LOG2_BYTE_BIT_SIZE"), (4, u "LOG2_ARRAY_INT_INDEX_SCALE"), (54, u "JLA"), (0, u "Ljdk/internal/access/JavaLangAccess;"), (11, u "LOG2_ARRAY_BOOLEAN_INDEX_SCALE"), (9, u "LOG2_ARRAY_BYTE_INDEX_SCALE"), (5, u "LOG2_ARRAY_CHAR_INDEX_SCALE"), (5, u "LOG2_ARRAY_SHORT_INDEX_SCALE"), (18, u "LOG2_ARRAY_FLOAT_INDEX_SCALE"), (24, u "LOG2_ARRAY_DOUBLE_INDEX_SCALE"), (89, u "T_BOOLEAN"), (2, u "T_CHAR"), (1, u "T_FLOAT"), (1, u "T_DOUBLE"), (1, u "T_BYTE"), (1, u "T_SHORT"), (1, u "T_INT"), (1, u "T_LONG"), (1, u "SOFT_MAX_ARRAY_LENGTH")] 83

def k15m0 : Method := { name := "<init>", desc := "()V", sig := { parameters := [], returnType := none }, accessFlags := 2, code := none }
/-- jdk/internal/util/ArraysSupport -/
def k15 : Class := { plain "jdk/internal/util/ArraysSupport" (some 0) with
  accessFlags := 33
  interfaces := #[]
  cf := some (fileOf pool15 21 #[] #[{ accessFlags := 2, nameIndex := 9, descriptorIndex := 19, attributes := #[] }] 33 16 #[] #[{ accessFlags := 24, nameIndex := 28, descriptorIndex := 29, attributes := #[] }, { accessFlags := 26, nameIndex := 38, descriptorIndex := 39, attributes := #[] }, { accessFlags := 25, nameIndex := 121, descriptorIndex := 25, attributes := #[] }, { accessFlags := 25, nameIndex := 131, descriptorIndex := 25, attributes := #[] }, { accessFlags := 25, nameIndex := 137, descriptorIndex := 25, attributes := #[] }, { accessFlags := 25, nameIndex := 143, descriptorIndex := 25, attributes := #[] }, { accessFlags := 25, nameIndex := 53, descriptorIndex := 25, attributes := #[] }, { accessFlags := 25, nameIndex := 24, descriptorIndex := 25, attributes := #[] }, { accessFlags := 25, nameIndex := 162, descriptorIndex := 25, attributes := #[] }, { accessFlags := 25, nameIndex := 187, descriptorIndex := 25, attributes := #[] }, { accessFlags := 26, nameIndex := 48, descriptorIndex := 25, attributes := #[] }, { accessFlags := 25, nameIndex := 277, descriptorIndex := 25, attributes := #[] }, { accessFlags := 25, nameIndex := 280, descriptorIndex := 25, attributes := #[] }, { accessFlags := 25, nameIndex := 282, descriptorIndex := 25, attributes := #[] }, { accessFlags := 25, nameIndex := 284, descriptorIndex := 25, attributes := #[] }, { accessFlags := 25, nameIndex := 286, descriptorIndex := 25, attributes := #[] }, { accessFlags := 25, nameIndex := 288, descriptorIndex := 25, attributes := #[] }, { accessFlags := 25, nameIndex := 290, descriptorIndex := 25, attributes := #[] }, { accessFlags := 25, nameIndex := 292, descriptorIndex := 25, attributes := #[] }, { accessFlags := 26, nameIndex := 108, descriptorIndex := 109, attributes := #[] }, { accessFlags := 25, nameIndex := 294, descriptorIndex := 25, attributes := #[] }])
  fields := #[{ name := "U", type := (.object "jdk/internal/misc/Unsafe"), accessFlags := 24, slot := 0, constantValue := 0 }, { name := "BIG_ENDIAN", type := .boolean, accessFlags := 26, slot := 1, constantValue := 0 }, { name := "LOG2_ARRAY_BOOLEAN_INDEX_SCALE", type := .int, accessFlags := 25, slot := 2, constantValue := 0 }, { name := "LOG2_ARRAY_BYTE_INDEX_SCALE", type := .int, accessFlags := 25, slot := 3, constantValue := 0 }, { name := "LOG2_ARRAY_CHAR_INDEX_SCALE", type := .int, accessFlags := 25, slot := 4, constantValue := 0 }, { name := "LOG2_ARRAY_SHORT_INDEX_SCALE", type := .int, accessFlags := 25, slot := 5, constantValue := 0 }, { name := "LOG2_ARRAY_INT_INDEX_SCALE", type := .int, accessFlags := 25, slot := 6, constantValue := 0 }, { name := "LOG2_ARRAY_LONG_INDEX_SCALE", type := .int, accessFlags := 25, slot := 7, constantValue := 0 }, { name := "LOG2_ARRAY_FLOAT_INDEX_SCALE", type := .int, accessFlags := 25, slot := 8, constantValue := 0 }, { name := "LOG2_ARRAY_DOUBLE_INDEX_SCALE", type := .int, accessFlags := 25, slot := 9, constantValue := 0 }, { name := "LOG2_BYTE_BIT_SIZE", type := .int, accessFlags := 26, slot := 10, constantValue := 0 }, { name := "T_BOOLEAN", type := .int, accessFlags := 25, slot := 11, constantValue := 0 }, { name := "T_CHAR", type := .int, accessFlags := 25, slot := 12, constantValue := 0 }, { name := "T_FLOAT", type := .int, accessFlags := 25, slot := 13, constantValue := 0 }, { name := "T_DOUBLE", type := .int, accessFlags := 25, slot := 14, constantValue := 0 }, { name := "T_BYTE", type := .int, accessFlags := 25, slot := 15, constantValue := 0 }, { name := "T_SHORT", type := .int, accessFlags := 25, slot := 16, constantValue := 0 }, { name := "T_INT", type := .int, accessFlags := 25, slot := 17, constantValue := 0 }, { name := "T_LONG", type := .int, accessFlags := 25, slot := 18, constantValue := 0 }, { name := "JLA", type := (.object "jdk/internal/access/JavaLangAccess"), accessFlags := 26, slot := 19, constantValue := 0 }, { name := "SOFT_MAX_ARRAY_LENGTH", type := .int, accessFlags := 25, slot := 20, constantValue := 0 }]
  methods := #[k15m0]
  instanceTypes := #[]
  staticTypes := #[(.object "jdk/internal/misc/Unsafe"), .boolean, .int, .int, .int, .int, .int, .int, .int, .int, .int, .int, .int, .int, .int, .int, .int, .int, .int, (.object "jdk/internal/access/JavaLangAccess"), .int]
  resolved := Array.replicate 378 none
  statics := none }

def pool16 : Array CpInfo := pool [(1, u "java/lang/Cloneable"), (0, .class_ 1), (0, u "java/lang/Object"), (0, .class_ 3)] 3

/-- java/lang/Cloneable -/
def k16 : Class := { plain "java/lang/Cloneable" (some 0) with
  accessFlags := 1537
  interfaces := #[]
  cf := some (fileOf pool16 2 #[] #[] 1537 4 #[] #[])
  fields := #[]
  methods := #[]
  instanceTypes := #[]
  staticTypes := #[]
  resolved := Array.replicate 8 none
  statics := none }

/-- the primitive byte -/
def k17 : Class := { plain "byte" none with kind := .primitive 'B', accessFlags := 0x411 }
/-- [B -/
def k18 : Class := { plain "[B" (some 0) with kind := .array 17 .byte, interfaces := #[16, 4], accessFlags := 1041 }

/-- the primitive char -/
def k19 : Class := { plain "char" none with kind := .primitive 'C', accessFlags := 0x411 }
/-- [C -/
def k20 : Class := { plain "[C" (some 0) with kind := .array 19 .char, interfaces := #[16, 4], accessFlags := 1041 }

/-- the primitive int -/
def k21 : Class := { plain "int" none with kind := .primitive 'I', accessFlags := 0x411 }
/-- [I -/
def k22 : Class := { plain "[I" (some 0) with kind := .array 21 .int, interfaces := #[16, 4], accessFlags := 1041 }

/-- [Lcom/example/killdeer/killdeer/GadgetView$Obscured; -/
def k23 : Class := { plain "[Lcom/example/killdeer/killdeer/GadgetView$Obscured;" (some 0) with kind := .array 7 (.object "com/example/killdeer/killdeer/GadgetView$Obscured"), interfaces := #[16, 4], accessFlags := 1041 }

def heap : Heap := #[{ cls := 7, slots := #[.ref 3, .ref 4, .ref 5, .null], vm := .statics 7 },
  { cls := 11, slots := #[.long 0, .int 1, .null, .int 0, .null, .int 0, .int 0], vm := .statics 11 },
  { cls := 14, slots := #[.null, .null, .null], vm := .statics 14 },
  { cls := 7, slots := #[.null, .int 0, .int 0, .null], vm := .none },
  { cls := 7, slots := #[.null, .int 1, .int 0, .null], vm := .none },
  { cls := 7, slots := #[.null, .int 2, .int 0, .null], vm := .none }]
def classes : Array Class := #[k0, k1, k2, k3, k4, k5, k6, k7, k8, k9, k10, k11, k12, k13, k14, k15, k16, k17, k18, k19, k20, k21, k22, k23]
def interned : List (Array UInt16 × Addr) := []
def slotsUsed : Nat := 26
def theMethod : MethodId := ⟨1, 1⟩
def args0 : Array Value := #[.long 5, .long 7, .long 1, .long 2, .int 3, .int 4]
def aboutOver (below : List Frame) : State where
  vm := { classes := classes, interned := interned.toArray }
  heap := heap
  slotsUsed := slotsUsed
  threads := #[{ frames := .invoking theMethod args0 :: below }]
def below0 : List Frame := [.native { method := ⟨0, 0⟩, args := #[] }]
def about1 : State := aboutOver below0
def p0 : Program := .bare "" "" ""
def e0 : Env := launch0.env 0 0 0
theorem w_frames : about1.frames = Frame.invoking theMethod args0 :: below0 := rfl
set_option maxRecDepth 65536 in
theorem w_args : argsFit about1.vm theMethod args0 = true := by decide +kernel
set_option maxRecDepth 65536 in
theorem w_heap : heapFits about1 = true := by decide +kernel
set_option maxRecDepth 65536 in
theorem w_runnable : about1.curStatus? = some .runnable := by decide +kernel
set_option maxRecDepth 65536 in
theorem w_alone : about1.alone = true := by decide +kernel
set_option maxRecDepth 65536 in
theorem w_named : about1.methodNamed? x = some theMethod := by decide +kernel
set_option maxRecDepth 65536 in
theorem w_hears : about1.hears theMethod below0 = true := by decide +kernel
set_option maxRecDepth 65536 in
theorem w_ripe : about1.ripe theMethod args0 below0 = true := by decide +kernel
theorem w_running : about1.status = .running := rfl
set_option maxRecDepth 65536 in
theorem w_room : about1.hasRoom e0.platform room_1 = true :=
  launch0.hasRoom_least _ room_1 (by decide +kernel) (by decide +kernel) (by decide +kernel) (by decide +kernel) (by decide +kernel) (by decide +kernel)
theorem allAtoms_all (ts : List Jvm.Cond) (a : Array Jvm.Value) (st : Jvm.State) : (allAtoms ts).before a st = ts.all (fun c => c.before a st) := by
  induction ts with
  | nil => rfl
  | cons c t ih =>
    show (Jvm.Cond.and c (allAtoms t)).before a st = _
    rw [Jvm.Cond.before_and, ih, List.all_cons]
def words1 : List Jvm.Cond := Jvm.Cond.code x code maxLocals ret :: tables_1
/-- a 'code' word, met by the world's own term for the bytes: nothing is compared byte by byte -/
theorem code_word {y : MethodName} {bytes : ByteArray} {mx : Nat} {rt : Option FieldType} {a : Array Value} {s : State} {m : MethodId} {meth : Method} {c : Code} (h1 : s.methodNamed? y = some m) (h2 : s.vm.method? m = some meth) (h3 : meth.code = some c) (h4 : c.code = bytes)
    (h5 : (c.maxLocals == mx && c.exceptionTable.isEmpty && decide (c.maxStack ≤ mostOperands) && decide (meth.sig.returnType = rt) && !meth.locks && decide (parseMethodDescriptor y.desc = some meth.sig)) = true) : (Jvm.Cond.code y bytes mx rt).before a s = true := by
  simp only [Bool.and_eq_true, beq_iff_eq, Bool.not_eq_true', decide_eq_true_eq] at h5
  obtain ⟨⟨⟨⟨⟨g1, g2⟩, g3⟩, g4⟩, g5⟩, g6⟩ := h5
  simp [Cond.before, Cond.holds, Cond.value, h1, h2, h3, h4, g1, g2, g3, g4, g5, g6]
def isCode : Jvm.Cond → Bool
  | .code _ _ _ _ => true
  | _ => false
theorem all_split {L : List Jvm.Cond} {P : Jvm.Cond → Bool} (h1 : L.all (fun c => isCode c || P c) = true) (h2 : ∀ c ∈ L.filter isCode, P c = true) : L.all P = true := by
  refine List.all_eq_true.mpr fun c hc => ?_
  have h := List.all_eq_true.mp h1 c hc
  rcases Bool.eq_false_or_eq_true (isCode c) with hi | hi
  · exact h2 c (List.mem_filter.mpr ⟨hc, hi⟩)
  · simpa [hi] using h
set_option maxRecDepth 65536 in
theorem w_c0 : (Jvm.Cond.code x code maxLocals ret).before args0 about1 = true := code_word (m := ⟨1, 1⟩) (meth := k1m1) (c := k1c1) (by decide +kernel) rfl rfl rfl (by decide +kernel)
set_option maxRecDepth 65536 in
theorem w_c1 : (Jvm.Cond.code ({ cls := "java/lang/String", name := "<init>", desc := "([C)V" } : Jvm.MethodName) jdk_42_method_3_code (2 : Nat) (Option.none : Option Jvm.ClassFile.FieldType)).before args0 about1 = true := code_word (m := ⟨11, 1⟩) (meth := k11m1) (c := k11c1) (by decide +kernel) rfl rfl rfl (by decide +kernel)
set_option maxRecDepth 65536 in
theorem w_c2 : (Jvm.Cond.code ({ cls := "java/lang/String", name := "<init>", desc := "([CIILjava/lang/Void;)V" } : Jvm.MethodName) jdk_42_method_149_code (6 : Nat) (Option.none : Option Jvm.ClassFile.FieldType)).before args0 about1 = true := code_word (m := ⟨11, 3⟩) (meth := k11m3) (c := k11c3) (by decide +kernel) rfl rfl rfl (by decide +kernel)
set_option maxRecDepth 65536 in
theorem w_c3 : (Jvm.Cond.code ({ cls := "java/lang/Object", name := "<init>", desc := "()V" } : Jvm.MethodName) object_method_1_code (1 : Nat) (Option.none : Option Jvm.ClassFile.FieldType)).before args0 about1 = true := code_word (m := ⟨0, 0⟩) (meth := k0m0) (c := k0c0) (by decide +kernel) rfl rfl rfl (by decide +kernel)
set_option maxRecDepth 65536 in
theorem w_c4 : (Jvm.Cond.code ({ cls := "java/lang/StringUTF16", name := "compress", desc := "([CII)[B" } : Jvm.MethodName) jdk_52_method_16_code (6 : Nat) (Option.some (Jvm.ClassFile.FieldType.array Jvm.ClassFile.FieldType.byte))).before args0 about1 = true := code_word (m := ⟨12, 2⟩) (meth := k12m2) (c := k12c2) (by decide +kernel) rfl rfl rfl (by decide +kernel)
set_option maxRecDepth 65536 in
theorem w_c5 : (Jvm.Cond.code ({ cls := "java/lang/StringUTF16", name := "compress", desc := "([CI[BII)I" } : Jvm.MethodName) jdk_52_method_21_code (7 : Nat) (Option.some Jvm.ClassFile.FieldType.int)).before args0 about1 = true := code_word (m := ⟨12, 3⟩) (meth := k12m3) (c := k12c3) (by decide +kernel) rfl rfl rfl (by decide +kernel)
set_option maxRecDepth 65536 in
theorem w_c6 : (Jvm.Cond.code ({ cls := "java/lang/StringUTF16", name := "coderFromArrayLen", desc := "([BI)B" } : Jvm.MethodName) jdk_52_method_15_code (2 : Nat) (Option.some Jvm.ClassFile.FieldType.byte)).before args0 about1 = true := code_word (m := ⟨12, 1⟩) (meth := k12m1) (c := k12c1) (by decide +kernel) rfl rfl rfl (by decide +kernel)
set_option maxRecDepth 65536 in
theorem w_c7 : (Jvm.Cond.code ({ cls := "com/example/killdeer/killdeer/GadgetView", name := "<init>", desc := "(ZLjava/lang/String;JJJJLcom/example/killdeer/killdeer/GadgetView$Obscured;)V" } : Jvm.MethodName) prog_16_method_1_code (12 : Nat) (Option.none : Option Jvm.ClassFile.FieldType)).before args0 about1 = true := code_word (m := ⟨8, 0⟩) (meth := k8m0) (c := k8c0) (by decide +kernel) rfl rfl rfl (by decide +kernel)
set_option maxRecDepth 65536 in
theorem w_c8 : (Jvm.Cond.code ({ cls := "com/example/killdeer/killdeer/GadgetView", name := "equals", desc := "(Ljava/lang/Object;)Z" } : Jvm.MethodName) prog_16_method_4_code (3 : Nat) (Option.some Jvm.ClassFile.FieldType.boolean)).before args0 about1 = true := code_word (m := ⟨8, 1⟩) (meth := k8m1) (c := k8c1) (by decide +kernel) rfl rfl rfl (by decide +kernel)
set_option maxRecDepth 65536 in
theorem w_c9 : (Jvm.Cond.code ({ cls := "java/lang/String", name := "equals", desc := "(Ljava/lang/Object;)Z" } : Jvm.MethodName) jdk_42_method_66_code (3 : Nat) (Option.some Jvm.ClassFile.FieldType.boolean)).before args0 about1 = true := code_word (m := ⟨11, 2⟩) (meth := k11m2) (c := k11c2) (by decide +kernel) rfl rfl rfl (by decide +kernel)
set_option maxRecDepth 65536 in
theorem w_c10 : (Jvm.Cond.code ({ cls := "java/lang/StringLatin1", name := "equals", desc := "([B[B)Z" } : Jvm.MethodName) jdk_43_method_13_code (3 : Nat) (Option.some Jvm.ClassFile.FieldType.boolean)).before args0 about1 = true := code_word (m := ⟨13, 1⟩) (meth := k13m1) (c := k13c1) (by decide +kernel) rfl rfl rfl (by decide +kernel)
def codes1 : List Jvm.Cond := [Jvm.Cond.code x code maxLocals ret, Jvm.Cond.code ({ cls := "java/lang/String", name := "<init>", desc := "([C)V" } : Jvm.MethodName) jdk_42_method_3_code (2 : Nat) (Option.none : Option Jvm.ClassFile.FieldType), Jvm.Cond.code ({ cls := "java/lang/String", name := "<init>", desc := "([CIILjava/lang/Void;)V" } : Jvm.MethodName) jdk_42_method_149_code (6 : Nat) (Option.none : Option Jvm.ClassFile.FieldType), Jvm.Cond.code ({ cls := "java/lang/Object", name := "<init>", desc := "()V" } : Jvm.MethodName) object_method_1_code (1 : Nat) (Option.none : Option Jvm.ClassFile.FieldType), Jvm.Cond.code ({ cls := "java/lang/StringUTF16", name := "compress", desc := "([CII)[B" } : Jvm.MethodName) jdk_52_method_16_code (6 : Nat) (Option.some (Jvm.ClassFile.FieldType.array Jvm.ClassFile.FieldType.byte)), Jvm.Cond.code ({ cls := "java/lang/StringUTF16", name := "compress", desc := "([CI[BII)I" } : Jvm.MethodName) jdk_52_method_21_code (7 : Nat) (Option.some Jvm.ClassFile.FieldType.int), Jvm.Cond.code ({ cls := "java/lang/StringUTF16", name := "coderFromArrayLen", desc := "([BI)B" } : Jvm.MethodName) jdk_52_method_15_code (2 : Nat) (Option.some Jvm.ClassFile.FieldType.byte), Jvm.Cond.code ({ cls := "com/example/killdeer/killdeer/GadgetView", name := "<init>", desc := "(ZLjava/lang/String;JJJJLcom/example/killdeer/killdeer/GadgetView$Obscured;)V" } : Jvm.MethodName) prog_16_method_1_code (12 : Nat) (Option.none : Option Jvm.ClassFile.FieldType), Jvm.Cond.code ({ cls := "com/example/killdeer/killdeer/GadgetView", name := "equals", desc := "(Ljava/lang/Object;)Z" } : Jvm.MethodName) prog_16_method_4_code (3 : Nat) (Option.some Jvm.ClassFile.FieldType.boolean), Jvm.Cond.code ({ cls := "java/lang/String", name := "equals", desc := "(Ljava/lang/Object;)Z" } : Jvm.MethodName) jdk_42_method_66_code (3 : Nat) (Option.some Jvm.ClassFile.FieldType.boolean), Jvm.Cond.code ({ cls := "java/lang/StringLatin1", name := "equals", desc := "([B[B)Z" } : Jvm.MethodName) jdk_43_method_13_code (3 : Nat) (Option.some Jvm.ClassFile.FieldType.boolean)]
set_option maxRecDepth 65536 in
theorem codes_eq : words1.filter isCode = codes1 := rfl
theorem w_codes : ∀ c ∈ words1.filter isCode, c.before args0 about1 = true := by
  rw [codes_eq]
  intro c hc
  simp only [codes1, List.mem_cons, List.not_mem_nil, or_false] at hc
  rcases hc with rfl | rfl | rfl | rfl | rfl | rfl | rfl | rfl | rfl | rfl | rfl
  · exact w_c0
  · exact w_c1
  · exact w_c2
  · exact w_c3
  · exact w_c4
  · exact w_c5
  · exact w_c6
  · exact w_c7
  · exact w_c8
  · exact w_c9
  · exact w_c10
set_option maxRecDepth 65536 in
theorem w_t1 : (words1.take 24).all (fun c => isCode c || c.before args0 about1) = true := by decide +kernel
set_option maxRecDepth 65536 in
theorem w_t2 : ((words1.drop 24).take 24).all (fun c => isCode c || c.before args0 about1) = true := by decide +kernel
set_option maxRecDepth 65536 in
theorem w_t3 : (((words1.drop 24).drop 24).take 24).all (fun c => isCode c || c.before args0 about1) = true := by decide +kernel
set_option maxRecDepth 65536 in
theorem w_t4 : (((words1.drop 24).drop 24).drop 24).all (fun c => isCode c || c.before args0 about1) = true := by decide +kernel
theorem w_tables : (allAtoms (Jvm.Cond.code x code maxLocals ret :: tables_1)).before args0 about1 = true := by
  rw [allAtoms_all]
  show words1.all (fun c => c.before args0 about1) = true
  refine all_split ?_ w_codes
  rw [← List.take_append_drop 24 words1, List.all_append, w_t1, ← List.take_append_drop 24 (words1.drop 24), List.all_append, w_t2, ← List.take_append_drop 24 ((words1.drop 24).drop 24), List.all_append, w_t3, w_t4]
  rfl
set_option maxRecDepth 65536 in
theorem w_rest : rest_1_c.before args0 about1 = true := by decide +kernel
set_option maxRecDepth 65536 in
theorem w_case : (Jvm.Cond.and given_1 narrow_1).before args0 about1 = true := by decide +kernel
theorem w_applies : (headSpec (Jvm.Cond.code x code maxLocals ret :: tables_1) room_1).applies x e0.platform about1 = true :=
  (Spec.applies_iff w_frames).mpr ⟨w_running, w_runnable, w_alone, w_named, w_hears, w_ripe, w_room, w_tables⟩
theorem atStart : AtStart classFile x code maxLocals ret World_1 tables_1 room_1 Calls_1 rest_1 Pre_1 launch0 p0 e0 about1 theMethod args0 below0 :=
  ⟨lists_1, trivial, launch0.admits_env _ _ _, launch0.least_env, fairChoices_fair.cas, fairChoices_fair.clock, w_frames, w_args, w_heap, w_applies, trivial, w_rest, w_case⟩
end start1
theorem witness_1 : WitnessClaimed_1 := ⟨start1.p0, start1.e0, start1.about1, start1.theMethod, start1.args0, start1.below0, start1.atStart⟩
end Jvm.Pilot.@@N@@
