import JvmDerived
import JvmDerived.Pilot.@@N@@Statement
import JvmDerived.Pilot.@@N@@Code
set_option linter.unusedVariables false
set_option linter.unusedSimpArgs false
@@BLOCK:NumsL.lean.txt@@
namespace Jvm.Pilot.@@N@@
open Jvm Jvm.ClassFile Sem Op Lib Jvm.Free Jvm.Stand Jvm.LawKit Jvm.RoadKit Bundle Jvm.Pilot.@@N@@.Jvm.D
/-- the run goes on from U and ends as Q says -/
def Goes (p : Program) (e : Env) (below : List Frame) (U : State) (Q : Outcome → State → Prop) : Prop := ∃ s₂ o, Steps p.tables e below U s₂ ∧ s₂.status = .running ∧ Ended s₂ below o ∧ Q o s₂
theorem Goes.by {p : Program} {e : Env} {below : List Frame} {U U' : State} {Q : Outcome → State → Prop} (h : ∀ t, Steps p.tables e below U' t → Steps p.tables e below U t) (g : Goes p e below U' Q) : Goes p e below U Q := by
  obtain ⟨s, o, h1, h2⟩ := g; exact ⟨s, o, h _ h1, h2⟩
theorem Goes.tr {p : Program} {e : Env} {below : List Frame} {U U' : State} {Q : Outcome → State → Prop} (h : Steps p.tables e below U U') (g : Goes p e below U' Q) : Goes p e below U Q := Goes.by (fun _ k => h.trans k) g
theorem Goes.join {α : Type} {p : Program} {e : Env} {below : List Frame} {U : State} {Q : Outcome → State → Prop} (P : α → Prop) (S : α → State) (k : (∀ z, P z → Goes p e below (S z) Q) → Goes p e below U Q) (j : ∀ z, P z → Goes p e below (S z) Q) : Goes p e below U Q := k j
theorem Goes.out {p : Program} {e : Env} {below : List Frame} {U : State} {Q : Outcome → State → Prop} (g : Goes p e below U Q) : ∃ s₂ o, Steps p.tables e below U s₂ ∧ s₂.status = .running ∧ Ended s₂ below o ∧ Q o s₂ := g
/-- a callee that writes nothing and returns r -/
def QP (r : Option Value) (h0 : Heap) (n0 : Nat) (v : Option Value) (h : Heap) (L : List Loc) : Prop := v = r ∧ Fr n0 L ∧ h = h0
/-- the law -/
def QL (n0 : Nat) (v : Option Value) (h : Heap) (L : List Loc) : Prop := v = some (.int 1) ∧ Fr n0 L
theorem own_lt {a b : Int64} (h : a < b) : lcmpW a b < 0 := by rw [lcW]; exact (lc_lt a b).mpr h
theorem own_nlt {a b : Int64} (h : ¬ a < b) : ¬ lcmpW a b < 0 := by rw [lcW]; exact fun q => h ((lc_lt a b).mp q)
theorem own_gt {a b : Int64} (h : b < a) : 0 < lcmpW a b := by rw [lcW]; exact (lc_gt a b).mpr h
theorem own_ngt {a b : Int64} (h : ¬ b < a) : ¬ 0 < lcmpW a b := by rw [lcW]; exact fun q => h ((lc_gt a b).mp q)
theorem own_eq {a b : Int64} (h : a = b) : lcmpW a b = 0 := by rw [lcW]; exact (lc_eq a b).mpr h
theorem own_neq {a b : Int64} (h : ¬ a = b) : ¬ lcmpW a b = 0 := by rw [lcW]; exact fun q => h ((lc_eq a b).mp q)
theorem own_staKeep {Z : State} {h h' : Heap} {C n d : String} {v : Value} {ws : List Addr} (F : Sta Z h C n d v) (K : Keep h h' ws) (q : ∀ x ∈ ws, ∃ c : Cell, h[x]? = some c ∧ c.vm.isStatics = false) : Sta Z h' C n d v := by
  obtain ⟨cf, i, k, f, st, cell, h1, h2, h3, h4, h5, h6, h7⟩ := F
  refine ⟨cf, i, k, f, st, cell, h1, h2, h3, h4, K.2.1 st cell h5 (fun hm => ?_), h6, h7⟩
  obtain ⟨c, e1, e2⟩ := q st hm
  cases e1.symm.trans h5; rw [e2] at h6; cases h6
theorem own_nsE {Z : State} {h : Heap} {a : Addr} {C : String} (F : Exa Z h a C) : ∃ c : Cell, h[a]? = some c ∧ c.vm.isStatics = false := by
  obtain ⟨c, k, h1, h2, h3, h4, h5⟩ := F; exact ⟨c, h1, h4⟩
theorem own_nsV {Z : State} {h : Heap} {a : Addr} {k : ClassId} {ty : FieldType} {n : Int32} {vs : List Value} {d : Value} (F : Arv Z h a k ty n vs d) : ∃ c : Cell, h[a]? = some c ∧ c.vm.isStatics = false := by
  obtain ⟨c, A, r⟩ := F; exact ⟨c, A.1, A.plain⟩
theorem own_fldI {s : State} {args : Array Value} {t : Term} {a : Addr} {C n d : String} {k : Int32} (ev : t.eval args s none [] s = some (.ref a)) (h : (Cond.eq (.field t C n d) (.int k)).value args s none s [] = some true) : Fld s s.heap a C n d (.int k) := by
  obtain ⟨x, y, h1, h2, k1, k2⟩ := cmp_v (Or.inl h)
  obtain rfl : y = .int k := (Option.some.inj h2).symm
  obtain ⟨z, rfl⟩ := k2
  have e1 : (Cond.eq (.field t C n d) (.int k)).value args s none s [] = some (decide (z = k)) := by simp [Cond.value, h1, h2]
  have e2 : z = k := gotT e1 h
  subst e2
  rw [fld_at ev] at h1
  exact Fld.start h1
theorem own_fldR {s : State} {args : Array Value} {t u : Term} {a b : Addr} {C n d : String} (ev : t.eval args s none [] s = some (.ref a)) (eu : u.eval args s none [] s = some (.ref b)) (h : (Cond.eq (.field t C n d) u).value args s none s [] = some true) : Fld s s.heap a C n d (.ref b) := by
  obtain ⟨x, y, h1, h2, k1, k2⟩ := cmp_v (Or.inl h)
  obtain rfl : y = .ref b := Option.some.inj (h2.symm.trans eu)
  have hx : x.isRef = true := k2.2
  have e2 : x = .ref b := gotT (eq_R h1 h2 hx rfl) h
  subst e2
  rw [fld_at ev] at h1
  exact Fld.start h1
def Pins (Z : State) (h : Heap) (w : Nat → Addr) : Prop := Sta Z h "com/example/strict_credit/strictcredit/diameter/ResultCode" "SUCCESS" "Lcom/example/strict_credit/strictcredit/diameter/ResultCode;" (.ref (w 0)) ∧ Exa Z h (w 0) "com/example/strict_credit/strictcredit/diameter/ResultCode" ∧ Sta Z h "com/example/strict_credit/strictcredit/diameter/ResultCode" "COMMAND_UNSUPPORTED" "Lcom/example/strict_credit/strictcredit/diameter/ResultCode;" (.ref (w 1)) ∧ Exa Z h (w 1) "com/example/strict_credit/strictcredit/diameter/ResultCode" ∧ Sta Z h "com/example/strict_credit/strictcredit/diameter/ResultCode" "APPLICATION_UNSUPPORTED" "Lcom/example/strict_credit/strictcredit/diameter/ResultCode;" (.ref (w 2)) ∧ Exa Z h (w 2) "com/example/strict_credit/strictcredit/diameter/ResultCode" ∧ Sta Z h "com/example/strict_credit/strictcredit/diameter/ResultCode" "INVALID_HDR_BITS" "Lcom/example/strict_credit/strictcredit/diameter/ResultCode;" (.ref (w 3)) ∧ Exa Z h (w 3) "com/example/strict_credit/strictcredit/diameter/ResultCode" ∧ Sta Z h "com/example/strict_credit/strictcredit/diameter/ResultCode" "UNKNOWN_PEER" "Lcom/example/strict_credit/strictcredit/diameter/ResultCode;" (.ref (w 4)) ∧ Exa Z h (w 4) "com/example/strict_credit/strictcredit/diameter/ResultCode" ∧ Sta Z h "com/example/strict_credit/strictcredit/diameter/ResultCode" "INVALID_AVP_VALUE" "Lcom/example/strict_credit/strictcredit/diameter/ResultCode;" (.ref (w 5)) ∧ Exa Z h (w 5) "com/example/strict_credit/strictcredit/diameter/ResultCode" ∧ Sta Z h "com/example/strict_credit/strictcredit/diameter/ResultCode" "MISSING_AVP" "Lcom/example/strict_credit/strictcredit/diameter/ResultCode;" (.ref (w 6)) ∧ Exa Z h (w 6) "com/example/strict_credit/strictcredit/diameter/ResultCode" ∧ Sta Z h "com/example/strict_credit/strictcredit/diameter/ResultCode" "UNSUPPORTED_VERSION" "Lcom/example/strict_credit/strictcredit/diameter/ResultCode;" (.ref (w 7)) ∧ Exa Z h (w 7) "com/example/strict_credit/strictcredit/diameter/ResultCode" ∧ Sta Z h "com/example/strict_credit/strictcredit/diameter/ResultCode" "CREDIT_LIMIT_REACHED" "Lcom/example/strict_credit/strictcredit/diameter/ResultCode;" (.ref (w 8)) ∧ Exa Z h (w 8) "com/example/strict_credit/strictcredit/diameter/ResultCode" ∧ Sta Z h "com/example/strict_credit/strictcredit/diameter/ResultCode" "AVP_UNSUPPORTED" "Lcom/example/strict_credit/strictcredit/diameter/ResultCode;" (.ref (w 9)) ∧ Exa Z h (w 9) "com/example/strict_credit/strictcredit/diameter/ResultCode" ∧ Sta Z h "com/example/strict_credit/strictcredit/diameter/ResultCode" "LIMITED_SUCCESS" "Lcom/example/strict_credit/strictcredit/diameter/ResultCode;" (.ref (w 10)) ∧ Exa Z h (w 10) "com/example/strict_credit/strictcredit/diameter/ResultCode" ∧ Sta Z h "com/example/strict_credit/strictcredit/diameter/ResultCode" "RATING_FAILED" "Lcom/example/strict_credit/strictcredit/diameter/ResultCode;" (.ref (w 11)) ∧ Exa Z h (w 11) "com/example/strict_credit/strictcredit/diameter/ResultCode" ∧ Sta Z h "com/example/strict_credit/strictcredit/diameter/ResultCode" "UNABLE_TO_COMPLY" "Lcom/example/strict_credit/strictcredit/diameter/ResultCode;" (.ref (w 12)) ∧ Exa Z h (w 12) "com/example/strict_credit/strictcredit/diameter/ResultCode" ∧ Sta Z h "com/example/strict_credit/strictcredit/diameter/ResultCode" "END_USER_SERVICE_DENIED" "Lcom/example/strict_credit/strictcredit/diameter/ResultCode;" (.ref (w 13)) ∧ Exa Z h (w 13) "com/example/strict_credit/strictcredit/diameter/ResultCode" ∧ Sta Z h "com/example/strict_credit/strictcredit/diameter/ResultCode" "INVALID_MESSAGE_LENGTH" "Lcom/example/strict_credit/strictcredit/diameter/ResultCode;" (.ref (w 14)) ∧ Exa Z h (w 14) "com/example/strict_credit/strictcredit/diameter/ResultCode" ∧ Sta Z h "com/example/strict_credit/strictcredit/diameter/ResultCode" "INVALID_AVP_LENGTH" "Lcom/example/strict_credit/strictcredit/diameter/ResultCode;" (.ref (w 15)) ∧ Exa Z h (w 15) "com/example/strict_credit/strictcredit/diameter/ResultCode" ∧ Sta Z h "com/example/strict_credit/strictcredit/diameter/ResultCode" "AVP_OCCURS_TOO_MANY_TIMES" "Lcom/example/strict_credit/strictcredit/diameter/ResultCode;" (.ref (w 16)) ∧ Exa Z h (w 16) "com/example/strict_credit/strictcredit/diameter/ResultCode" ∧ Sta Z h "com/example/strict_credit/strictcredit/diameter/ResultCode" "UNKNOWN_SESSION_ID" "Lcom/example/strict_credit/strictcredit/diameter/ResultCode;" (.ref (w 17)) ∧ Exa Z h (w 17) "com/example/strict_credit/strictcredit/diameter/ResultCode" ∧ Sta Z h "com/example/strict_credit/strictcredit/diameter/ResultCode" "NO_COMMON_APPLICATION" "Lcom/example/strict_credit/strictcredit/diameter/ResultCode;" (.ref (w 18)) ∧ Exa Z h (w 18) "com/example/strict_credit/strictcredit/diameter/ResultCode" ∧ Sta Z h "com/example/strict_credit/strictcredit/diameter/ResultCode" "USER_UNKNOWN" "Lcom/example/strict_credit/strictcredit/diameter/ResultCode;" (.ref (w 19)) ∧ Exa Z h (w 19) "com/example/strict_credit/strictcredit/diameter/ResultCode" ∧ Fld Z h (w 0) "java/lang/Enum" "ordinal" "I" (.int (0 : Int32)) ∧ Fld Z h (w 1) "java/lang/Enum" "ordinal" "I" (.int (2 : Int32)) ∧ Fld Z h (w 2) "java/lang/Enum" "ordinal" "I" (.int (3 : Int32)) ∧ Fld Z h (w 3) "java/lang/Enum" "ordinal" "I" (.int (4 : Int32)) ∧ Fld Z h (w 4) "java/lang/Enum" "ordinal" "I" (.int (5 : Int32)) ∧ Fld Z h (w 0) "com/example/strict_credit/strictcredit/diameter/ResultCode" "code" "I" (.int (2001 : Int32)) ∧ Fld Z h (w 2) "com/example/strict_credit/strictcredit/diameter/ResultCode" "code" "I" (.int (3007 : Int32)) ∧ Fld Z h (w 5) "java/lang/Enum" "ordinal" "I" (.int (10 : Int32)) ∧ Fld Z h (w 5) "com/example/strict_credit/strictcredit/diameter/ResultCode" "code" "I" (.int (5004 : Int32)) ∧ Fld Z h (w 6) "java/lang/Enum" "ordinal" "I" (.int (11 : Int32)) ∧ Fld Z h (w 6) "com/example/strict_credit/strictcredit/diameter/ResultCode" "code" "I" (.int (5005 : Int32)) ∧ Fld Z h (w 7) "java/lang/Enum" "ordinal" "I" (.int (14 : Int32)) ∧ Fld Z h (w 7) "com/example/strict_credit/strictcredit/diameter/ResultCode" "code" "I" (.int (5011 : Int32)) ∧ Fld Z h (w 8) "java/lang/Enum" "ordinal" "I" (.int (7 : Int32)) ∧ Fld Z h (w 8) "com/example/strict_credit/strictcredit/diameter/ResultCode" "code" "I" (.int (4012 : Int32)) ∧ Fld Z h (w 1) "com/example/strict_credit/strictcredit/diameter/ResultCode" "code" "I" (.int (3001 : Int32)) ∧ Fld Z h (w 9) "java/lang/Enum" "ordinal" "I" (.int (8 : Int32)) ∧ Fld Z h (w 9) "com/example/strict_credit/strictcredit/diameter/ResultCode" "code" "I" (.int (5001 : Int32)) ∧ Fld Z h (w 10) "java/lang/Enum" "ordinal" "I" (.int (1 : Int32)) ∧ Fld Z h (w 10) "com/example/strict_credit/strictcredit/diameter/ResultCode" "code" "I" (.int (2002 : Int32)) ∧ Fld Z h (w 11) "java/lang/Enum" "ordinal" "I" (.int (19 : Int32)) ∧ Fld Z h (w 11) "com/example/strict_credit/strictcredit/diameter/ResultCode" "code" "I" (.int (5031 : Int32)) ∧ Fld Z h (w 12) "java/lang/Enum" "ordinal" "I" (.int (15 : Int32)) ∧ Fld Z h (w 12) "com/example/strict_credit/strictcredit/diameter/ResultCode" "code" "I" (.int (5012 : Int32)) ∧ Fld Z h (w 13) "java/lang/Enum" "ordinal" "I" (.int (6 : Int32)) ∧ Fld Z h (w 13) "com/example/strict_credit/strictcredit/diameter/ResultCode" "code" "I" (.int (4010 : Int32)) ∧ Fld Z h (w 14) "java/lang/Enum" "ordinal" "I" (.int (17 : Int32)) ∧ Fld Z h (w 14) "com/example/strict_credit/strictcredit/diameter/ResultCode" "code" "I" (.int (5015 : Int32)) ∧ Fld Z h (w 15) "java/lang/Enum" "ordinal" "I" (.int (16 : Int32)) ∧ Fld Z h (w 15) "com/example/strict_credit/strictcredit/diameter/ResultCode" "code" "I" (.int (5014 : Int32)) ∧ Fld Z h (w 16) "java/lang/Enum" "ordinal" "I" (.int (12 : Int32)) ∧ Fld Z h (w 16) "com/example/strict_credit/strictcredit/diameter/ResultCode" "code" "I" (.int (5009 : Int32)) ∧ Fld Z h (w 4) "com/example/strict_credit/strictcredit/diameter/ResultCode" "code" "I" (.int (3010 : Int32)) ∧ Fld Z h (w 3) "com/example/strict_credit/strictcredit/diameter/ResultCode" "code" "I" (.int (3008 : Int32)) ∧ Fld Z h (w 17) "java/lang/Enum" "ordinal" "I" (.int (9 : Int32)) ∧ Fld Z h (w 17) "com/example/strict_credit/strictcredit/diameter/ResultCode" "code" "I" (.int (5002 : Int32)) ∧ Fld Z h (w 18) "java/lang/Enum" "ordinal" "I" (.int (13 : Int32)) ∧ Fld Z h (w 18) "com/example/strict_credit/strictcredit/diameter/ResultCode" "code" "I" (.int (5010 : Int32)) ∧ Fld Z h (w 19) "java/lang/Enum" "ordinal" "I" (.int (18 : Int32)) ∧ Fld Z h (w 19) "com/example/strict_credit/strictcredit/diameter/ResultCode" "code" "I" (.int (5030 : Int32))
theorem own_ne_0_1 {Z : State} {h : Heap} {w : Nat → Addr} (P : Pins Z h w) : w 0 ≠ w 1 := Fld.ne P.2.2.2.2.2.2.2.2.2.2.2.2.2.2.2.2.2.2.2.2.2.2.2.2.2.2.2.2.2.2.2.2.2.2.2.2.2.2.2.2.1 P.2.2.2.2.2.2.2.2.2.2.2.2.2.2.2.2.2.2.2.2.2.2.2.2.2.2.2.2.2.2.2.2.2.2.2.2.2.2.2.2.2.1 (fun q => absurd (Value.int.inj q) (by decide))
theorem own_ne_0_2 {Z : State} {h : Heap} {w : Nat → Addr} (P : Pins Z h w) : w 0 ≠ w 2 := Fld.ne P.2.2.2.2.2.2.2.2.2.2.2.2.2.2.2.2.2.2.2.2.2.2.2.2.2.2.2.2.2.2.2.2.2.2.2.2.2.2.2.2.1 P.2.2.2.2.2.2.2.2.2.2.2.2.2.2.2.2.2.2.2.2.2.2.2.2.2.2.2.2.2.2.2.2.2.2.2.2.2.2.2.2.2.2.1 (fun q => absurd (Value.int.inj q) (by decide))
theorem own_ne_0_3 {Z : State} {h : Heap} {w : Nat → Addr} (P : Pins Z h w) : w 0 ≠ w 3 := Fld.ne P.2.2.2.2.2.2.2.2.2.2.2.2.2.2.2.2.2.2.2.2.2.2.2.2.2.2.2.2.2.2.2.2.2.2.2.2.2.2.2.2.1 P.2.2.2.2.2.2.2.2.2.2.2.2.2.2.2.2.2.2.2.2.2.2.2.2.2.2.2.2.2.2.2.2.2.2.2.2.2.2.2.2.2.2.2.1 (fun q => absurd (Value.int.inj q) (by decide))
theorem own_ne_0_4 {Z : State} {h : Heap} {w : Nat → Addr} (P : Pins Z h w) : w 0 ≠ w 4 := Fld.ne P.2.2.2.2.2.2.2.2.2.2.2.2.2.2.2.2.2.2.2.2.2.2.2.2.2.2.2.2.2.2.2.2.2.2.2.2.2.2.2.2.1 P.2.2.2.2.2.2.2.2.2.2.2.2.2.2.2.2.2.2.2.2.2.2.2.2.2.2.2.2.2.2.2.2.2.2.2.2.2.2.2.2.2.2.2.2.1 (fun q => absurd (Value.int.inj q) (by decide))
theorem own_ne_1_2 {Z : State} {h : Heap} {w : Nat → Addr} (P : Pins Z h w) : w 1 ≠ w 2 := Fld.ne P.2.2.2.2.2.2.2.2.2.2.2.2.2.2.2.2.2.2.2.2.2.2.2.2.2.2.2.2.2.2.2.2.2.2.2.2.2.2.2.2.2.1 P.2.2.2.2.2.2.2.2.2.2.2.2.2.2.2.2.2.2.2.2.2.2.2.2.2.2.2.2.2.2.2.2.2.2.2.2.2.2.2.2.2.2.1 (fun q => absurd (Value.int.inj q) (by decide))
theorem own_ne_1_3 {Z : State} {h : Heap} {w : Nat → Addr} (P : Pins Z h w) : w 1 ≠ w 3 := Fld.ne P.2.2.2.2.2.2.2.2.2.2.2.2.2.2.2.2.2.2.2.2.2.2.2.2.2.2.2.2.2.2.2.2.2.2.2.2.2.2.2.2.2.1 P.2.2.2.2.2.2.2.2.2.2.2.2.2.2.2.2.2.2.2.2.2.2.2.2.2.2.2.2.2.2.2.2.2.2.2.2.2.2.2.2.2.2.2.1 (fun q => absurd (Value.int.inj q) (by decide))
theorem own_ne_1_4 {Z : State} {h : Heap} {w : Nat → Addr} (P : Pins Z h w) : w 1 ≠ w 4 := Fld.ne P.2.2.2.2.2.2.2.2.2.2.2.2.2.2.2.2.2.2.2.2.2.2.2.2.2.2.2.2.2.2.2.2.2.2.2.2.2.2.2.2.2.1 P.2.2.2.2.2.2.2.2.2.2.2.2.2.2.2.2.2.2.2.2.2.2.2.2.2.2.2.2.2.2.2.2.2.2.2.2.2.2.2.2.2.2.2.2.1 (fun q => absurd (Value.int.inj q) (by decide))
theorem own_ne_1_5 {Z : State} {h : Heap} {w : Nat → Addr} (P : Pins Z h w) : w 1 ≠ w 5 := Fld.ne P.2.2.2.2.2.2.2.2.2.2.2.2.2.2.2.2.2.2.2.2.2.2.2.2.2.2.2.2.2.2.2.2.2.2.2.2.2.2.2.2.2.1 P.2.2.2.2.2.2.2.2.2.2.2.2.2.2.2.2.2.2.2.2.2.2.2.2.2.2.2.2.2.2.2.2.2.2.2.2.2.2.2.2.2.2.2.2.2.2.2.1 (fun q => absurd (Value.int.inj q) (by decide))
theorem own_ne_1_6 {Z : State} {h : Heap} {w : Nat → Addr} (P : Pins Z h w) : w 1 ≠ w 6 := Fld.ne P.2.2.2.2.2.2.2.2.2.2.2.2.2.2.2.2.2.2.2.2.2.2.2.2.2.2.2.2.2.2.2.2.2.2.2.2.2.2.2.2.2.1 P.2.2.2.2.2.2.2.2.2.2.2.2.2.2.2.2.2.2.2.2.2.2.2.2.2.2.2.2.2.2.2.2.2.2.2.2.2.2.2.2.2.2.2.2.2.2.2.2.2.1 (fun q => absurd (Value.int.inj q) (by decide))
theorem own_ne_1_7 {Z : State} {h : Heap} {w : Nat → Addr} (P : Pins Z h w) : w 1 ≠ w 7 := Fld.ne P.2.2.2.2.2.2.2.2.2.2.2.2.2.2.2.2.2.2.2.2.2.2.2.2.2.2.2.2.2.2.2.2.2.2.2.2.2.2.2.2.2.1 P.2.2.2.2.2.2.2.2.2.2.2.2.2.2.2.2.2.2.2.2.2.2.2.2.2.2.2.2.2.2.2.2.2.2.2.2.2.2.2.2.2.2.2.2.2.2.2.2.2.2.2.1 (fun q => absurd (Value.int.inj q) (by decide))
theorem own_ne_1_8 {Z : State} {h : Heap} {w : Nat → Addr} (P : Pins Z h w) : w 1 ≠ w 8 := Fld.ne P.2.2.2.2.2.2.2.2.2.2.2.2.2.2.2.2.2.2.2.2.2.2.2.2.2.2.2.2.2.2.2.2.2.2.2.2.2.2.2.2.2.1 P.2.2.2.2.2.2.2.2.2.2.2.2.2.2.2.2.2.2.2.2.2.2.2.2.2.2.2.2.2.2.2.2.2.2.2.2.2.2.2.2.2.2.2.2.2.2.2.2.2.2.2.2.2.1 (fun q => absurd (Value.int.inj q) (by decide))
theorem own_ne_1_9 {Z : State} {h : Heap} {w : Nat → Addr} (P : Pins Z h w) : w 1 ≠ w 9 := Fld.ne P.2.2.2.2.2.2.2.2.2.2.2.2.2.2.2.2.2.2.2.2.2.2.2.2.2.2.2.2.2.2.2.2.2.2.2.2.2.2.2.2.2.1 P.2.2.2.2.2.2.2.2.2.2.2.2.2.2.2.2.2.2.2.2.2.2.2.2.2.2.2.2.2.2.2.2.2.2.2.2.2.2.2.2.2.2.2.2.2.2.2.2.2.2.2.2.2.2.2.2.1 (fun q => absurd (Value.int.inj q) (by decide))
theorem own_ne_1_10 {Z : State} {h : Heap} {w : Nat → Addr} (P : Pins Z h w) : w 1 ≠ w 10 := Fld.ne P.2.2.2.2.2.2.2.2.2.2.2.2.2.2.2.2.2.2.2.2.2.2.2.2.2.2.2.2.2.2.2.2.2.2.2.2.2.2.2.2.2.1 P.2.2.2.2.2.2.2.2.2.2.2.2.2.2.2.2.2.2.2.2.2.2.2.2.2.2.2.2.2.2.2.2.2.2.2.2.2.2.2.2.2.2.2.2.2.2.2.2.2.2.2.2.2.2.2.2.2.2.1 (fun q => absurd (Value.int.inj q) (by decide))
theorem own_ne_1_11 {Z : State} {h : Heap} {w : Nat → Addr} (P : Pins Z h w) : w 1 ≠ w 11 := Fld.ne P.2.2.2.2.2.2.2.2.2.2.2.2.2.2.2.2.2.2.2.2.2.2.2.2.2.2.2.2.2.2.2.2.2.2.2.2.2.2.2.2.2.1 P.2.2.2.2.2.2.2.2.2.2.2.2.2.2.2.2.2.2.2.2.2.2.2.2.2.2.2.2.2.2.2.2.2.2.2.2.2.2.2.2.2.2.2.2.2.2.2.2.2.2.2.2.2.2.2.2.2.2.2.2.1 (fun q => absurd (Value.int.inj q) (by decide))
theorem own_ne_1_12 {Z : State} {h : Heap} {w : Nat → Addr} (P : Pins Z h w) : w 1 ≠ w 12 := Fld.ne P.2.2.2.2.2.2.2.2.2.2.2.2.2.2.2.2.2.2.2.2.2.2.2.2.2.2.2.2.2.2.2.2.2.2.2.2.2.2.2.2.2.1 P.2.2.2.2.2.2.2.2.2.2.2.2.2.2.2.2.2.2.2.2.2.2.2.2.2.2.2.2.2.2.2.2.2.2.2.2.2.2.2.2.2.2.2.2.2.2.2.2.2.2.2.2.2.2.2.2.2.2.2.2.2.2.1 (fun q => absurd (Value.int.inj q) (by decide))
theorem own_ne_1_13 {Z : State} {h : Heap} {w : Nat → Addr} (P : Pins Z h w) : w 1 ≠ w 13 := Fld.ne P.2.2.2.2.2.2.2.2.2.2.2.2.2.2.2.2.2.2.2.2.2.2.2.2.2.2.2.2.2.2.2.2.2.2.2.2.2.2.2.2.2.1 P.2.2.2.2.2.2.2.2.2.2.2.2.2.2.2.2.2.2.2.2.2.2.2.2.2.2.2.2.2.2.2.2.2.2.2.2.2.2.2.2.2.2.2.2.2.2.2.2.2.2.2.2.2.2.2.2.2.2.2.2.2.2.2.2.1 (fun q => absurd (Value.int.inj q) (by decide))
theorem own_ne_1_14 {Z : State} {h : Heap} {w : Nat → Addr} (P : Pins Z h w) : w 1 ≠ w 14 := Fld.ne P.2.2.2.2.2.2.2.2.2.2.2.2.2.2.2.2.2.2.2.2.2.2.2.2.2.2.2.2.2.2.2.2.2.2.2.2.2.2.2.2.2.1 P.2.2.2.2.2.2.2.2.2.2.2.2.2.2.2.2.2.2.2.2.2.2.2.2.2.2.2.2.2.2.2.2.2.2.2.2.2.2.2.2.2.2.2.2.2.2.2.2.2.2.2.2.2.2.2.2.2.2.2.2.2.2.2.2.2.2.1 (fun q => absurd (Value.int.inj q) (by decide))
theorem own_ne_1_15 {Z : State} {h : Heap} {w : Nat → Addr} (P : Pins Z h w) : w 1 ≠ w 15 := Fld.ne P.2.2.2.2.2.2.2.2.2.2.2.2.2.2.2.2.2.2.2.2.2.2.2.2.2.2.2.2.2.2.2.2.2.2.2.2.2.2.2.2.2.1 P.2.2.2.2.2.2.2.2.2.2.2.2.2.2.2.2.2.2.2.2.2.2.2.2.2.2.2.2.2.2.2.2.2.2.2.2.2.2.2.2.2.2.2.2.2.2.2.2.2.2.2.2.2.2.2.2.2.2.2.2.2.2.2.2.2.2.2.2.1 (fun q => absurd (Value.int.inj q) (by decide))
theorem own_ne_1_16 {Z : State} {h : Heap} {w : Nat → Addr} (P : Pins Z h w) : w 1 ≠ w 16 := Fld.ne P.2.2.2.2.2.2.2.2.2.2.2.2.2.2.2.2.2.2.2.2.2.2.2.2.2.2.2.2.2.2.2.2.2.2.2.2.2.2.2.2.2.1 P.2.2.2.2.2.2.2.2.2.2.2.2.2.2.2.2.2.2.2.2.2.2.2.2.2.2.2.2.2.2.2.2.2.2.2.2.2.2.2.2.2.2.2.2.2.2.2.2.2.2.2.2.2.2.2.2.2.2.2.2.2.2.2.2.2.2.2.2.2.2.1 (fun q => absurd (Value.int.inj q) (by decide))
theorem own_ne_1_17 {Z : State} {h : Heap} {w : Nat → Addr} (P : Pins Z h w) : w 1 ≠ w 17 := Fld.ne P.2.2.2.2.2.2.2.2.2.2.2.2.2.2.2.2.2.2.2.2.2.2.2.2.2.2.2.2.2.2.2.2.2.2.2.2.2.2.2.2.2.1 P.2.2.2.2.2.2.2.2.2.2.2.2.2.2.2.2.2.2.2.2.2.2.2.2.2.2.2.2.2.2.2.2.2.2.2.2.2.2.2.2.2.2.2.2.2.2.2.2.2.2.2.2.2.2.2.2.2.2.2.2.2.2.2.2.2.2.2.2.2.2.2.2.2.2.1 (fun q => absurd (Value.int.inj q) (by decide))
theorem own_ne_1_18 {Z : State} {h : Heap} {w : Nat → Addr} (P : Pins Z h w) : w 1 ≠ w 18 := Fld.ne P.2.2.2.2.2.2.2.2.2.2.2.2.2.2.2.2.2.2.2.2.2.2.2.2.2.2.2.2.2.2.2.2.2.2.2.2.2.2.2.2.2.1 P.2.2.2.2.2.2.2.2.2.2.2.2.2.2.2.2.2.2.2.2.2.2.2.2.2.2.2.2.2.2.2.2.2.2.2.2.2.2.2.2.2.2.2.2.2.2.2.2.2.2.2.2.2.2.2.2.2.2.2.2.2.2.2.2.2.2.2.2.2.2.2.2.2.2.2.2.1 (fun q => absurd (Value.int.inj q) (by decide))
theorem own_ne_1_19 {Z : State} {h : Heap} {w : Nat → Addr} (P : Pins Z h w) : w 1 ≠ w 19 := Fld.ne P.2.2.2.2.2.2.2.2.2.2.2.2.2.2.2.2.2.2.2.2.2.2.2.2.2.2.2.2.2.2.2.2.2.2.2.2.2.2.2.2.2.1 P.2.2.2.2.2.2.2.2.2.2.2.2.2.2.2.2.2.2.2.2.2.2.2.2.2.2.2.2.2.2.2.2.2.2.2.2.2.2.2.2.2.2.2.2.2.2.2.2.2.2.2.2.2.2.2.2.2.2.2.2.2.2.2.2.2.2.2.2.2.2.2.2.2.2.2.2.2.2.1 (fun q => absurd (Value.int.inj q) (by decide))
theorem own_ne_2_3 {Z : State} {h : Heap} {w : Nat → Addr} (P : Pins Z h w) : w 2 ≠ w 3 := Fld.ne P.2.2.2.2.2.2.2.2.2.2.2.2.2.2.2.2.2.2.2.2.2.2.2.2.2.2.2.2.2.2.2.2.2.2.2.2.2.2.2.2.2.2.1 P.2.2.2.2.2.2.2.2.2.2.2.2.2.2.2.2.2.2.2.2.2.2.2.2.2.2.2.2.2.2.2.2.2.2.2.2.2.2.2.2.2.2.2.1 (fun q => absurd (Value.int.inj q) (by decide))
theorem own_ne_2_4 {Z : State} {h : Heap} {w : Nat → Addr} (P : Pins Z h w) : w 2 ≠ w 4 := Fld.ne P.2.2.2.2.2.2.2.2.2.2.2.2.2.2.2.2.2.2.2.2.2.2.2.2.2.2.2.2.2.2.2.2.2.2.2.2.2.2.2.2.2.2.1 P.2.2.2.2.2.2.2.2.2.2.2.2.2.2.2.2.2.2.2.2.2.2.2.2.2.2.2.2.2.2.2.2.2.2.2.2.2.2.2.2.2.2.2.2.1 (fun q => absurd (Value.int.inj q) (by decide))
theorem own_ne_2_5 {Z : State} {h : Heap} {w : Nat → Addr} (P : Pins Z h w) : w 2 ≠ w 5 := Fld.ne P.2.2.2.2.2.2.2.2.2.2.2.2.2.2.2.2.2.2.2.2.2.2.2.2.2.2.2.2.2.2.2.2.2.2.2.2.2.2.2.2.2.2.1 P.2.2.2.2.2.2.2.2.2.2.2.2.2.2.2.2.2.2.2.2.2.2.2.2.2.2.2.2.2.2.2.2.2.2.2.2.2.2.2.2.2.2.2.2.2.2.2.1 (fun q => absurd (Value.int.inj q) (by decide))
theorem own_ne_2_6 {Z : State} {h : Heap} {w : Nat → Addr} (P : Pins Z h w) : w 2 ≠ w 6 := Fld.ne P.2.2.2.2.2.2.2.2.2.2.2.2.2.2.2.2.2.2.2.2.2.2.2.2.2.2.2.2.2.2.2.2.2.2.2.2.2.2.2.2.2.2.1 P.2.2.2.2.2.2.2.2.2.2.2.2.2.2.2.2.2.2.2.2.2.2.2.2.2.2.2.2.2.2.2.2.2.2.2.2.2.2.2.2.2.2.2.2.2.2.2.2.2.1 (fun q => absurd (Value.int.inj q) (by decide))
theorem own_ne_2_7 {Z : State} {h : Heap} {w : Nat → Addr} (P : Pins Z h w) : w 2 ≠ w 7 := Fld.ne P.2.2.2.2.2.2.2.2.2.2.2.2.2.2.2.2.2.2.2.2.2.2.2.2.2.2.2.2.2.2.2.2.2.2.2.2.2.2.2.2.2.2.1 P.2.2.2.2.2.2.2.2.2.2.2.2.2.2.2.2.2.2.2.2.2.2.2.2.2.2.2.2.2.2.2.2.2.2.2.2.2.2.2.2.2.2.2.2.2.2.2.2.2.2.2.1 (fun q => absurd (Value.int.inj q) (by decide))
theorem own_ne_2_8 {Z : State} {h : Heap} {w : Nat → Addr} (P : Pins Z h w) : w 2 ≠ w 8 := Fld.ne P.2.2.2.2.2.2.2.2.2.2.2.2.2.2.2.2.2.2.2.2.2.2.2.2.2.2.2.2.2.2.2.2.2.2.2.2.2.2.2.2.2.2.1 P.2.2.2.2.2.2.2.2.2.2.2.2.2.2.2.2.2.2.2.2.2.2.2.2.2.2.2.2.2.2.2.2.2.2.2.2.2.2.2.2.2.2.2.2.2.2.2.2.2.2.2.2.2.1 (fun q => absurd (Value.int.inj q) (by decide))
theorem own_ne_2_9 {Z : State} {h : Heap} {w : Nat → Addr} (P : Pins Z h w) : w 2 ≠ w 9 := Fld.ne P.2.2.2.2.2.2.2.2.2.2.2.2.2.2.2.2.2.2.2.2.2.2.2.2.2.2.2.2.2.2.2.2.2.2.2.2.2.2.2.2.2.2.1 P.2.2.2.2.2.2.2.2.2.2.2.2.2.2.2.2.2.2.2.2.2.2.2.2.2.2.2.2.2.2.2.2.2.2.2.2.2.2.2.2.2.2.2.2.2.2.2.2.2.2.2.2.2.2.2.2.1 (fun q => absurd (Value.int.inj q) (by decide))
theorem own_ne_2_10 {Z : State} {h : Heap} {w : Nat → Addr} (P : Pins Z h w) : w 2 ≠ w 10 := Fld.ne P.2.2.2.2.2.2.2.2.2.2.2.2.2.2.2.2.2.2.2.2.2.2.2.2.2.2.2.2.2.2.2.2.2.2.2.2.2.2.2.2.2.2.1 P.2.2.2.2.2.2.2.2.2.2.2.2.2.2.2.2.2.2.2.2.2.2.2.2.2.2.2.2.2.2.2.2.2.2.2.2.2.2.2.2.2.2.2.2.2.2.2.2.2.2.2.2.2.2.2.2.2.2.1 (fun q => absurd (Value.int.inj q) (by decide))
theorem own_ne_2_11 {Z : State} {h : Heap} {w : Nat → Addr} (P : Pins Z h w) : w 2 ≠ w 11 := Fld.ne P.2.2.2.2.2.2.2.2.2.2.2.2.2.2.2.2.2.2.2.2.2.2.2.2.2.2.2.2.2.2.2.2.2.2.2.2.2.2.2.2.2.2.1 P.2.2.2.2.2.2.2.2.2.2.2.2.2.2.2.2.2.2.2.2.2.2.2.2.2.2.2.2.2.2.2.2.2.2.2.2.2.2.2.2.2.2.2.2.2.2.2.2.2.2.2.2.2.2.2.2.2.2.2.2.1 (fun q => absurd (Value.int.inj q) (by decide))
theorem own_ne_2_12 {Z : State} {h : Heap} {w : Nat → Addr} (P : Pins Z h w) : w 2 ≠ w 12 := Fld.ne P.2.2.2.2.2.2.2.2.2.2.2.2.2.2.2.2.2.2.2.2.2.2.2.2.2.2.2.2.2.2.2.2.2.2.2.2.2.2.2.2.2.2.1 P.2.2.2.2.2.2.2.2.2.2.2.2.2.2.2.2.2.2.2.2.2.2.2.2.2.2.2.2.2.2.2.2.2.2.2.2.2.2.2.2.2.2.2.2.2.2.2.2.2.2.2.2.2.2.2.2.2.2.2.2.2.2.1 (fun q => absurd (Value.int.inj q) (by decide))
theorem own_ne_2_13 {Z : State} {h : Heap} {w : Nat → Addr} (P : Pins Z h w) : w 2 ≠ w 13 := Fld.ne P.2.2.2.2.2.2.2.2.2.2.2.2.2.2.2.2.2.2.2.2.2.2.2.2.2.2.2.2.2.2.2.2.2.2.2.2.2.2.2.2.2.2.1 P.2.2.2.2.2.2.2.2.2.2.2.2.2.2.2.2.2.2.2.2.2.2.2.2.2.2.2.2.2.2.2.2.2.2.2.2.2.2.2.2.2.2.2.2.2.2.2.2.2.2.2.2.2.2.2.2.2.2.2.2.2.2.2.2.1 (fun q => absurd (Value.int.inj q) (by decide))
theorem own_ne_2_14 {Z : State} {h : Heap} {w : Nat → Addr} (P : Pins Z h w) : w 2 ≠ w 14 := Fld.ne P.2.2.2.2.2.2.2.2.2.2.2.2.2.2.2.2.2.2.2.2.2.2.2.2.2.2.2.2.2.2.2.2.2.2.2.2.2.2.2.2.2.2.1 P.2.2.2.2.2.2.2.2.2.2.2.2.2.2.2.2.2.2.2.2.2.2.2.2.2.2.2.2.2.2.2.2.2.2.2.2.2.2.2.2.2.2.2.2.2.2.2.2.2.2.2.2.2.2.2.2.2.2.2.2.2.2.2.2.2.2.1 (fun q => absurd (Value.int.inj q) (by decide))
theorem own_ne_2_15 {Z : State} {h : Heap} {w : Nat → Addr} (P : Pins Z h w) : w 2 ≠ w 15 := Fld.ne P.2.2.2.2.2.2.2.2.2.2.2.2.2.2.2.2.2.2.2.2.2.2.2.2.2.2.2.2.2.2.2.2.2.2.2.2.2.2.2.2.2.2.1 P.2.2.2.2.2.2.2.2.2.2.2.2.2.2.2.2.2.2.2.2.2.2.2.2.2.2.2.2.2.2.2.2.2.2.2.2.2.2.2.2.2.2.2.2.2.2.2.2.2.2.2.2.2.2.2.2.2.2.2.2.2.2.2.2.2.2.2.2.1 (fun q => absurd (Value.int.inj q) (by decide))
theorem own_ne_2_16 {Z : State} {h : Heap} {w : Nat → Addr} (P : Pins Z h w) : w 2 ≠ w 16 := Fld.ne P.2.2.2.2.2.2.2.2.2.2.2.2.2.2.2.2.2.2.2.2.2.2.2.2.2.2.2.2.2.2.2.2.2.2.2.2.2.2.2.2.2.2.1 P.2.2.2.2.2.2.2.2.2.2.2.2.2.2.2.2.2.2.2.2.2.2.2.2.2.2.2.2.2.2.2.2.2.2.2.2.2.2.2.2.2.2.2.2.2.2.2.2.2.2.2.2.2.2.2.2.2.2.2.2.2.2.2.2.2.2.2.2.2.2.1 (fun q => absurd (Value.int.inj q) (by decide))
theorem own_ne_2_17 {Z : State} {h : Heap} {w : Nat → Addr} (P : Pins Z h w) : w 2 ≠ w 17 := Fld.ne P.2.2.2.2.2.2.2.2.2.2.2.2.2.2.2.2.2.2.2.2.2.2.2.2.2.2.2.2.2.2.2.2.2.2.2.2.2.2.2.2.2.2.1 P.2.2.2.2.2.2.2.2.2.2.2.2.2.2.2.2.2.2.2.2.2.2.2.2.2.2.2.2.2.2.2.2.2.2.2.2.2.2.2.2.2.2.2.2.2.2.2.2.2.2.2.2.2.2.2.2.2.2.2.2.2.2.2.2.2.2.2.2.2.2.2.2.2.2.1 (fun q => absurd (Value.int.inj q) (by decide))
theorem own_ne_2_18 {Z : State} {h : Heap} {w : Nat → Addr} (P : Pins Z h w) : w 2 ≠ w 18 := Fld.ne P.2.2.2.2.2.2.2.2.2.2.2.2.2.2.2.2.2.2.2.2.2.2.2.2.2.2.2.2.2.2.2.2.2.2.2.2.2.2.2.2.2.2.1 P.2.2.2.2.2.2.2.2.2.2.2.2.2.2.2.2.2.2.2.2.2.2.2.2.2.2.2.2.2.2.2.2.2.2.2.2.2.2.2.2.2.2.2.2.2.2.2.2.2.2.2.2.2.2.2.2.2.2.2.2.2.2.2.2.2.2.2.2.2.2.2.2.2.2.2.2.1 (fun q => absurd (Value.int.inj q) (by decide))
theorem own_ne_2_19 {Z : State} {h : Heap} {w : Nat → Addr} (P : Pins Z h w) : w 2 ≠ w 19 := Fld.ne P.2.2.2.2.2.2.2.2.2.2.2.2.2.2.2.2.2.2.2.2.2.2.2.2.2.2.2.2.2.2.2.2.2.2.2.2.2.2.2.2.2.2.1 P.2.2.2.2.2.2.2.2.2.2.2.2.2.2.2.2.2.2.2.2.2.2.2.2.2.2.2.2.2.2.2.2.2.2.2.2.2.2.2.2.2.2.2.2.2.2.2.2.2.2.2.2.2.2.2.2.2.2.2.2.2.2.2.2.2.2.2.2.2.2.2.2.2.2.2.2.2.2.1 (fun q => absurd (Value.int.inj q) (by decide))
theorem own_ne_3_4 {Z : State} {h : Heap} {w : Nat → Addr} (P : Pins Z h w) : w 3 ≠ w 4 := Fld.ne P.2.2.2.2.2.2.2.2.2.2.2.2.2.2.2.2.2.2.2.2.2.2.2.2.2.2.2.2.2.2.2.2.2.2.2.2.2.2.2.2.2.2.2.1 P.2.2.2.2.2.2.2.2.2.2.2.2.2.2.2.2.2.2.2.2.2.2.2.2.2.2.2.2.2.2.2.2.2.2.2.2.2.2.2.2.2.2.2.2.1 (fun q => absurd (Value.int.inj q) (by decide))
theorem own_ne_3_5 {Z : State} {h : Heap} {w : Nat → Addr} (P : Pins Z h w) : w 3 ≠ w 5 := Fld.ne P.2.2.2.2.2.2.2.2.2.2.2.2.2.2.2.2.2.2.2.2.2.2.2.2.2.2.2.2.2.2.2.2.2.2.2.2.2.2.2.2.2.2.2.1 P.2.2.2.2.2.2.2.2.2.2.2.2.2.2.2.2.2.2.2.2.2.2.2.2.2.2.2.2.2.2.2.2.2.2.2.2.2.2.2.2.2.2.2.2.2.2.2.1 (fun q => absurd (Value.int.inj q) (by decide))
theorem own_ne_3_6 {Z : State} {h : Heap} {w : Nat → Addr} (P : Pins Z h w) : w 3 ≠ w 6 := Fld.ne P.2.2.2.2.2.2.2.2.2.2.2.2.2.2.2.2.2.2.2.2.2.2.2.2.2.2.2.2.2.2.2.2.2.2.2.2.2.2.2.2.2.2.2.1 P.2.2.2.2.2.2.2.2.2.2.2.2.2.2.2.2.2.2.2.2.2.2.2.2.2.2.2.2.2.2.2.2.2.2.2.2.2.2.2.2.2.2.2.2.2.2.2.2.2.1 (fun q => absurd (Value.int.inj q) (by decide))
theorem own_ne_3_7 {Z : State} {h : Heap} {w : Nat → Addr} (P : Pins Z h w) : w 3 ≠ w 7 := Fld.ne P.2.2.2.2.2.2.2.2.2.2.2.2.2.2.2.2.2.2.2.2.2.2.2.2.2.2.2.2.2.2.2.2.2.2.2.2.2.2.2.2.2.2.2.1 P.2.2.2.2.2.2.2.2.2.2.2.2.2.2.2.2.2.2.2.2.2.2.2.2.2.2.2.2.2.2.2.2.2.2.2.2.2.2.2.2.2.2.2.2.2.2.2.2.2.2.2.1 (fun q => absurd (Value.int.inj q) (by decide))
theorem own_ne_3_8 {Z : State} {h : Heap} {w : Nat → Addr} (P : Pins Z h w) : w 3 ≠ w 8 := Fld.ne P.2.2.2.2.2.2.2.2.2.2.2.2.2.2.2.2.2.2.2.2.2.2.2.2.2.2.2.2.2.2.2.2.2.2.2.2.2.2.2.2.2.2.2.1 P.2.2.2.2.2.2.2.2.2.2.2.2.2.2.2.2.2.2.2.2.2.2.2.2.2.2.2.2.2.2.2.2.2.2.2.2.2.2.2.2.2.2.2.2.2.2.2.2.2.2.2.2.2.1 (fun q => absurd (Value.int.inj q) (by decide))
theorem own_ne_3_9 {Z : State} {h : Heap} {w : Nat → Addr} (P : Pins Z h w) : w 3 ≠ w 9 := Fld.ne P.2.2.2.2.2.2.2.2.2.2.2.2.2.2.2.2.2.2.2.2.2.2.2.2.2.2.2.2.2.2.2.2.2.2.2.2.2.2.2.2.2.2.2.1 P.2.2.2.2.2.2.2.2.2.2.2.2.2.2.2.2.2.2.2.2.2.2.2.2.2.2.2.2.2.2.2.2.2.2.2.2.2.2.2.2.2.2.2.2.2.2.2.2.2.2.2.2.2.2.2.2.1 (fun q => absurd (Value.int.inj q) (by decide))
theorem own_ne_3_10 {Z : State} {h : Heap} {w : Nat → Addr} (P : Pins Z h w) : w 3 ≠ w 10 := Fld.ne P.2.2.2.2.2.2.2.2.2.2.2.2.2.2.2.2.2.2.2.2.2.2.2.2.2.2.2.2.2.2.2.2.2.2.2.2.2.2.2.2.2.2.2.1 P.2.2.2.2.2.2.2.2.2.2.2.2.2.2.2.2.2.2.2.2.2.2.2.2.2.2.2.2.2.2.2.2.2.2.2.2.2.2.2.2.2.2.2.2.2.2.2.2.2.2.2.2.2.2.2.2.2.2.1 (fun q => absurd (Value.int.inj q) (by decide))
theorem own_ne_3_11 {Z : State} {h : Heap} {w : Nat → Addr} (P : Pins Z h w) : w 3 ≠ w 11 := Fld.ne P.2.2.2.2.2.2.2.2.2.2.2.2.2.2.2.2.2.2.2.2.2.2.2.2.2.2.2.2.2.2.2.2.2.2.2.2.2.2.2.2.2.2.2.1 P.2.2.2.2.2.2.2.2.2.2.2.2.2.2.2.2.2.2.2.2.2.2.2.2.2.2.2.2.2.2.2.2.2.2.2.2.2.2.2.2.2.2.2.2.2.2.2.2.2.2.2.2.2.2.2.2.2.2.2.2.1 (fun q => absurd (Value.int.inj q) (by decide))
theorem own_ne_3_12 {Z : State} {h : Heap} {w : Nat → Addr} (P : Pins Z h w) : w 3 ≠ w 12 := Fld.ne P.2.2.2.2.2.2.2.2.2.2.2.2.2.2.2.2.2.2.2.2.2.2.2.2.2.2.2.2.2.2.2.2.2.2.2.2.2.2.2.2.2.2.2.1 P.2.2.2.2.2.2.2.2.2.2.2.2.2.2.2.2.2.2.2.2.2.2.2.2.2.2.2.2.2.2.2.2.2.2.2.2.2.2.2.2.2.2.2.2.2.2.2.2.2.2.2.2.2.2.2.2.2.2.2.2.2.2.1 (fun q => absurd (Value.int.inj q) (by decide))
theorem own_ne_3_13 {Z : State} {h : Heap} {w : Nat → Addr} (P : Pins Z h w) : w 3 ≠ w 13 := Fld.ne P.2.2.2.2.2.2.2.2.2.2.2.2.2.2.2.2.2.2.2.2.2.2.2.2.2.2.2.2.2.2.2.2.2.2.2.2.2.2.2.2.2.2.2.1 P.2.2.2.2.2.2.2.2.2.2.2.2.2.2.2.2.2.2.2.2.2.2.2.2.2.2.2.2.2.2.2.2.2.2.2.2.2.2.2.2.2.2.2.2.2.2.2.2.2.2.2.2.2.2.2.2.2.2.2.2.2.2.2.2.1 (fun q => absurd (Value.int.inj q) (by decide))
theorem own_ne_3_14 {Z : State} {h : Heap} {w : Nat → Addr} (P : Pins Z h w) : w 3 ≠ w 14 := Fld.ne P.2.2.2.2.2.2.2.2.2.2.2.2.2.2.2.2.2.2.2.2.2.2.2.2.2.2.2.2.2.2.2.2.2.2.2.2.2.2.2.2.2.2.2.1 P.2.2.2.2.2.2.2.2.2.2.2.2.2.2.2.2.2.2.2.2.2.2.2.2.2.2.2.2.2.2.2.2.2.2.2.2.2.2.2.2.2.2.2.2.2.2.2.2.2.2.2.2.2.2.2.2.2.2.2.2.2.2.2.2.2.2.1 (fun q => absurd (Value.int.inj q) (by decide))
theorem own_ne_3_15 {Z : State} {h : Heap} {w : Nat → Addr} (P : Pins Z h w) : w 3 ≠ w 15 := Fld.ne P.2.2.2.2.2.2.2.2.2.2.2.2.2.2.2.2.2.2.2.2.2.2.2.2.2.2.2.2.2.2.2.2.2.2.2.2.2.2.2.2.2.2.2.1 P.2.2.2.2.2.2.2.2.2.2.2.2.2.2.2.2.2.2.2.2.2.2.2.2.2.2.2.2.2.2.2.2.2.2.2.2.2.2.2.2.2.2.2.2.2.2.2.2.2.2.2.2.2.2.2.2.2.2.2.2.2.2.2.2.2.2.2.2.1 (fun q => absurd (Value.int.inj q) (by decide))
theorem own_ne_3_16 {Z : State} {h : Heap} {w : Nat → Addr} (P : Pins Z h w) : w 3 ≠ w 16 := Fld.ne P.2.2.2.2.2.2.2.2.2.2.2.2.2.2.2.2.2.2.2.2.2.2.2.2.2.2.2.2.2.2.2.2.2.2.2.2.2.2.2.2.2.2.2.1 P.2.2.2.2.2.2.2.2.2.2.2.2.2.2.2.2.2.2.2.2.2.2.2.2.2.2.2.2.2.2.2.2.2.2.2.2.2.2.2.2.2.2.2.2.2.2.2.2.2.2.2.2.2.2.2.2.2.2.2.2.2.2.2.2.2.2.2.2.2.2.1 (fun q => absurd (Value.int.inj q) (by decide))
theorem own_ne_3_17 {Z : State} {h : Heap} {w : Nat → Addr} (P : Pins Z h w) : w 3 ≠ w 17 := Fld.ne P.2.2.2.2.2.2.2.2.2.2.2.2.2.2.2.2.2.2.2.2.2.2.2.2.2.2.2.2.2.2.2.2.2.2.2.2.2.2.2.2.2.2.2.1 P.2.2.2.2.2.2.2.2.2.2.2.2.2.2.2.2.2.2.2.2.2.2.2.2.2.2.2.2.2.2.2.2.2.2.2.2.2.2.2.2.2.2.2.2.2.2.2.2.2.2.2.2.2.2.2.2.2.2.2.2.2.2.2.2.2.2.2.2.2.2.2.2.2.2.1 (fun q => absurd (Value.int.inj q) (by decide))
theorem own_ne_3_18 {Z : State} {h : Heap} {w : Nat → Addr} (P : Pins Z h w) : w 3 ≠ w 18 := Fld.ne P.2.2.2.2.2.2.2.2.2.2.2.2.2.2.2.2.2.2.2.2.2.2.2.2.2.2.2.2.2.2.2.2.2.2.2.2.2.2.2.2.2.2.2.1 P.2.2.2.2.2.2.2.2.2.2.2.2.2.2.2.2.2.2.2.2.2.2.2.2.2.2.2.2.2.2.2.2.2.2.2.2.2.2.2.2.2.2.2.2.2.2.2.2.2.2.2.2.2.2.2.2.2.2.2.2.2.2.2.2.2.2.2.2.2.2.2.2.2.2.2.2.1 (fun q => absurd (Value.int.inj q) (by decide))
theorem own_ne_3_19 {Z : State} {h : Heap} {w : Nat → Addr} (P : Pins Z h w) : w 3 ≠ w 19 := Fld.ne P.2.2.2.2.2.2.2.2.2.2.2.2.2.2.2.2.2.2.2.2.2.2.2.2.2.2.2.2.2.2.2.2.2.2.2.2.2.2.2.2.2.2.2.1 P.2.2.2.2.2.2.2.2.2.2.2.2.2.2.2.2.2.2.2.2.2.2.2.2.2.2.2.2.2.2.2.2.2.2.2.2.2.2.2.2.2.2.2.2.2.2.2.2.2.2.2.2.2.2.2.2.2.2.2.2.2.2.2.2.2.2.2.2.2.2.2.2.2.2.2.2.2.2.1 (fun q => absurd (Value.int.inj q) (by decide))
theorem own_ne_4_5 {Z : State} {h : Heap} {w : Nat → Addr} (P : Pins Z h w) : w 4 ≠ w 5 := Fld.ne P.2.2.2.2.2.2.2.2.2.2.2.2.2.2.2.2.2.2.2.2.2.2.2.2.2.2.2.2.2.2.2.2.2.2.2.2.2.2.2.2.2.2.2.2.1 P.2.2.2.2.2.2.2.2.2.2.2.2.2.2.2.2.2.2.2.2.2.2.2.2.2.2.2.2.2.2.2.2.2.2.2.2.2.2.2.2.2.2.2.2.2.2.2.1 (fun q => absurd (Value.int.inj q) (by decide))
theorem own_ne_4_6 {Z : State} {h : Heap} {w : Nat → Addr} (P : Pins Z h w) : w 4 ≠ w 6 := Fld.ne P.2.2.2.2.2.2.2.2.2.2.2.2.2.2.2.2.2.2.2.2.2.2.2.2.2.2.2.2.2.2.2.2.2.2.2.2.2.2.2.2.2.2.2.2.1 P.2.2.2.2.2.2.2.2.2.2.2.2.2.2.2.2.2.2.2.2.2.2.2.2.2.2.2.2.2.2.2.2.2.2.2.2.2.2.2.2.2.2.2.2.2.2.2.2.2.1 (fun q => absurd (Value.int.inj q) (by decide))
theorem own_ne_4_7 {Z : State} {h : Heap} {w : Nat → Addr} (P : Pins Z h w) : w 4 ≠ w 7 := Fld.ne P.2.2.2.2.2.2.2.2.2.2.2.2.2.2.2.2.2.2.2.2.2.2.2.2.2.2.2.2.2.2.2.2.2.2.2.2.2.2.2.2.2.2.2.2.1 P.2.2.2.2.2.2.2.2.2.2.2.2.2.2.2.2.2.2.2.2.2.2.2.2.2.2.2.2.2.2.2.2.2.2.2.2.2.2.2.2.2.2.2.2.2.2.2.2.2.2.2.1 (fun q => absurd (Value.int.inj q) (by decide))
theorem own_ne_4_8 {Z : State} {h : Heap} {w : Nat → Addr} (P : Pins Z h w) : w 4 ≠ w 8 := Fld.ne P.2.2.2.2.2.2.2.2.2.2.2.2.2.2.2.2.2.2.2.2.2.2.2.2.2.2.2.2.2.2.2.2.2.2.2.2.2.2.2.2.2.2.2.2.1 P.2.2.2.2.2.2.2.2.2.2.2.2.2.2.2.2.2.2.2.2.2.2.2.2.2.2.2.2.2.2.2.2.2.2.2.2.2.2.2.2.2.2.2.2.2.2.2.2.2.2.2.2.2.1 (fun q => absurd (Value.int.inj q) (by decide))
theorem own_ne_4_9 {Z : State} {h : Heap} {w : Nat → Addr} (P : Pins Z h w) : w 4 ≠ w 9 := Fld.ne P.2.2.2.2.2.2.2.2.2.2.2.2.2.2.2.2.2.2.2.2.2.2.2.2.2.2.2.2.2.2.2.2.2.2.2.2.2.2.2.2.2.2.2.2.1 P.2.2.2.2.2.2.2.2.2.2.2.2.2.2.2.2.2.2.2.2.2.2.2.2.2.2.2.2.2.2.2.2.2.2.2.2.2.2.2.2.2.2.2.2.2.2.2.2.2.2.2.2.2.2.2.2.1 (fun q => absurd (Value.int.inj q) (by decide))
theorem own_ne_4_10 {Z : State} {h : Heap} {w : Nat → Addr} (P : Pins Z h w) : w 4 ≠ w 10 := Fld.ne P.2.2.2.2.2.2.2.2.2.2.2.2.2.2.2.2.2.2.2.2.2.2.2.2.2.2.2.2.2.2.2.2.2.2.2.2.2.2.2.2.2.2.2.2.1 P.2.2.2.2.2.2.2.2.2.2.2.2.2.2.2.2.2.2.2.2.2.2.2.2.2.2.2.2.2.2.2.2.2.2.2.2.2.2.2.2.2.2.2.2.2.2.2.2.2.2.2.2.2.2.2.2.2.2.1 (fun q => absurd (Value.int.inj q) (by decide))
theorem own_ne_4_11 {Z : State} {h : Heap} {w : Nat → Addr} (P : Pins Z h w) : w 4 ≠ w 11 := Fld.ne P.2.2.2.2.2.2.2.2.2.2.2.2.2.2.2.2.2.2.2.2.2.2.2.2.2.2.2.2.2.2.2.2.2.2.2.2.2.2.2.2.2.2.2.2.1 P.2.2.2.2.2.2.2.2.2.2.2.2.2.2.2.2.2.2.2.2.2.2.2.2.2.2.2.2.2.2.2.2.2.2.2.2.2.2.2.2.2.2.2.2.2.2.2.2.2.2.2.2.2.2.2.2.2.2.2.2.1 (fun q => absurd (Value.int.inj q) (by decide))
theorem own_ne_4_12 {Z : State} {h : Heap} {w : Nat → Addr} (P : Pins Z h w) : w 4 ≠ w 12 := Fld.ne P.2.2.2.2.2.2.2.2.2.2.2.2.2.2.2.2.2.2.2.2.2.2.2.2.2.2.2.2.2.2.2.2.2.2.2.2.2.2.2.2.2.2.2.2.1 P.2.2.2.2.2.2.2.2.2.2.2.2.2.2.2.2.2.2.2.2.2.2.2.2.2.2.2.2.2.2.2.2.2.2.2.2.2.2.2.2.2.2.2.2.2.2.2.2.2.2.2.2.2.2.2.2.2.2.2.2.2.2.1 (fun q => absurd (Value.int.inj q) (by decide))
theorem own_ne_4_13 {Z : State} {h : Heap} {w : Nat → Addr} (P : Pins Z h w) : w 4 ≠ w 13 := Fld.ne P.2.2.2.2.2.2.2.2.2.2.2.2.2.2.2.2.2.2.2.2.2.2.2.2.2.2.2.2.2.2.2.2.2.2.2.2.2.2.2.2.2.2.2.2.1 P.2.2.2.2.2.2.2.2.2.2.2.2.2.2.2.2.2.2.2.2.2.2.2.2.2.2.2.2.2.2.2.2.2.2.2.2.2.2.2.2.2.2.2.2.2.2.2.2.2.2.2.2.2.2.2.2.2.2.2.2.2.2.2.2.1 (fun q => absurd (Value.int.inj q) (by decide))
theorem own_ne_4_14 {Z : State} {h : Heap} {w : Nat → Addr} (P : Pins Z h w) : w 4 ≠ w 14 := Fld.ne P.2.2.2.2.2.2.2.2.2.2.2.2.2.2.2.2.2.2.2.2.2.2.2.2.2.2.2.2.2.2.2.2.2.2.2.2.2.2.2.2.2.2.2.2.1 P.2.2.2.2.2.2.2.2.2.2.2.2.2.2.2.2.2.2.2.2.2.2.2.2.2.2.2.2.2.2.2.2.2.2.2.2.2.2.2.2.2.2.2.2.2.2.2.2.2.2.2.2.2.2.2.2.2.2.2.2.2.2.2.2.2.2.1 (fun q => absurd (Value.int.inj q) (by decide))
theorem own_ne_4_15 {Z : State} {h : Heap} {w : Nat → Addr} (P : Pins Z h w) : w 4 ≠ w 15 := Fld.ne P.2.2.2.2.2.2.2.2.2.2.2.2.2.2.2.2.2.2.2.2.2.2.2.2.2.2.2.2.2.2.2.2.2.2.2.2.2.2.2.2.2.2.2.2.1 P.2.2.2.2.2.2.2.2.2.2.2.2.2.2.2.2.2.2.2.2.2.2.2.2.2.2.2.2.2.2.2.2.2.2.2.2.2.2.2.2.2.2.2.2.2.2.2.2.2.2.2.2.2.2.2.2.2.2.2.2.2.2.2.2.2.2.2.2.1 (fun q => absurd (Value.int.inj q) (by decide))
theorem own_ne_4_16 {Z : State} {h : Heap} {w : Nat → Addr} (P : Pins Z h w) : w 4 ≠ w 16 := Fld.ne P.2.2.2.2.2.2.2.2.2.2.2.2.2.2.2.2.2.2.2.2.2.2.2.2.2.2.2.2.2.2.2.2.2.2.2.2.2.2.2.2.2.2.2.2.1 P.2.2.2.2.2.2.2.2.2.2.2.2.2.2.2.2.2.2.2.2.2.2.2.2.2.2.2.2.2.2.2.2.2.2.2.2.2.2.2.2.2.2.2.2.2.2.2.2.2.2.2.2.2.2.2.2.2.2.2.2.2.2.2.2.2.2.2.2.2.2.1 (fun q => absurd (Value.int.inj q) (by decide))
theorem own_ne_4_17 {Z : State} {h : Heap} {w : Nat → Addr} (P : Pins Z h w) : w 4 ≠ w 17 := Fld.ne P.2.2.2.2.2.2.2.2.2.2.2.2.2.2.2.2.2.2.2.2.2.2.2.2.2.2.2.2.2.2.2.2.2.2.2.2.2.2.2.2.2.2.2.2.1 P.2.2.2.2.2.2.2.2.2.2.2.2.2.2.2.2.2.2.2.2.2.2.2.2.2.2.2.2.2.2.2.2.2.2.2.2.2.2.2.2.2.2.2.2.2.2.2.2.2.2.2.2.2.2.2.2.2.2.2.2.2.2.2.2.2.2.2.2.2.2.2.2.2.2.1 (fun q => absurd (Value.int.inj q) (by decide))
theorem own_ne_4_18 {Z : State} {h : Heap} {w : Nat → Addr} (P : Pins Z h w) : w 4 ≠ w 18 := Fld.ne P.2.2.2.2.2.2.2.2.2.2.2.2.2.2.2.2.2.2.2.2.2.2.2.2.2.2.2.2.2.2.2.2.2.2.2.2.2.2.2.2.2.2.2.2.1 P.2.2.2.2.2.2.2.2.2.2.2.2.2.2.2.2.2.2.2.2.2.2.2.2.2.2.2.2.2.2.2.2.2.2.2.2.2.2.2.2.2.2.2.2.2.2.2.2.2.2.2.2.2.2.2.2.2.2.2.2.2.2.2.2.2.2.2.2.2.2.2.2.2.2.2.2.1 (fun q => absurd (Value.int.inj q) (by decide))
theorem own_ne_4_19 {Z : State} {h : Heap} {w : Nat → Addr} (P : Pins Z h w) : w 4 ≠ w 19 := Fld.ne P.2.2.2.2.2.2.2.2.2.2.2.2.2.2.2.2.2.2.2.2.2.2.2.2.2.2.2.2.2.2.2.2.2.2.2.2.2.2.2.2.2.2.2.2.1 P.2.2.2.2.2.2.2.2.2.2.2.2.2.2.2.2.2.2.2.2.2.2.2.2.2.2.2.2.2.2.2.2.2.2.2.2.2.2.2.2.2.2.2.2.2.2.2.2.2.2.2.2.2.2.2.2.2.2.2.2.2.2.2.2.2.2.2.2.2.2.2.2.2.2.2.2.2.2.1 (fun q => absurd (Value.int.inj q) (by decide))
theorem own_split (x : Int32) : ((x &&& (2147483647 : Int32)) % (20 : Int32)) = (0 : Int32) ∨ ((x &&& (2147483647 : Int32)) % (20 : Int32)) = (1 : Int32) ∨ ((x &&& (2147483647 : Int32)) % (20 : Int32)) = (2 : Int32) ∨ ((x &&& (2147483647 : Int32)) % (20 : Int32)) = (3 : Int32) ∨ ((x &&& (2147483647 : Int32)) % (20 : Int32)) = (4 : Int32) ∨ ((x &&& (2147483647 : Int32)) % (20 : Int32)) = (5 : Int32) ∨ ((x &&& (2147483647 : Int32)) % (20 : Int32)) = (6 : Int32) ∨ ((x &&& (2147483647 : Int32)) % (20 : Int32)) = (7 : Int32) ∨ ((x &&& (2147483647 : Int32)) % (20 : Int32)) = (8 : Int32) ∨ ((x &&& (2147483647 : Int32)) % (20 : Int32)) = (9 : Int32) ∨ ((x &&& (2147483647 : Int32)) % (20 : Int32)) = (10 : Int32) ∨ ((x &&& (2147483647 : Int32)) % (20 : Int32)) = (11 : Int32) ∨ ((x &&& (2147483647 : Int32)) % (20 : Int32)) = (12 : Int32) ∨ ((x &&& (2147483647 : Int32)) % (20 : Int32)) = (13 : Int32) ∨ ((x &&& (2147483647 : Int32)) % (20 : Int32)) = (14 : Int32) ∨ ((x &&& (2147483647 : Int32)) % (20 : Int32)) = (15 : Int32) ∨ ((x &&& (2147483647 : Int32)) % (20 : Int32)) = (16 : Int32) ∨ ((x &&& (2147483647 : Int32)) % (20 : Int32)) = (17 : Int32) ∨ ((x &&& (2147483647 : Int32)) % (20 : Int32)) = (18 : Int32) ∨ ((x &&& (2147483647 : Int32)) % (20 : Int32)) = (19 : Int32) := by
  have e1 : (x &&& (2147483647 : Int32)).toInt = x.toInt % 2 ^ 31 := Jvm.Kit.i32_mask x (2147483647 : Int32) (k := 31) (by decide) (by decide)
  have e2 : (((x &&& (2147483647 : Int32)) % (20 : Int32))).toInt = (x &&& (2147483647 : Int32)).toInt % (20 : Int32).toInt := Jvm.Kit.i32_rem_nonneg (by omega)
  rw [show (20 : Int32).toInt = 20 from by decide] at e2
  simp only [← Int32.toInt_inj]
  rw [show (0 : Int32).toInt = 0 from by decide, show (1 : Int32).toInt = 1 from by decide, show (2 : Int32).toInt = 2 from by decide, show (3 : Int32).toInt = 3 from by decide, show (4 : Int32).toInt = 4 from by decide, show (5 : Int32).toInt = 5 from by decide, show (6 : Int32).toInt = 6 from by decide, show (7 : Int32).toInt = 7 from by decide, show (8 : Int32).toInt = 8 from by decide, show (9 : Int32).toInt = 9 from by decide, show (10 : Int32).toInt = 10 from by decide, show (11 : Int32).toInt = 11 from by decide, show (12 : Int32).toInt = 12 from by decide, show (13 : Int32).toInt = 13 from by decide, show (14 : Int32).toInt = 14 from by decide, show (15 : Int32).toInt = 15 from by decide, show (16 : Int32).toInt = 16 from by decide, show (17 : Int32).toInt = 17 from by decide, show (18 : Int32).toInt = 18 from by decide, show (19 : Int32).toInt = 19 from by decide]
  omega
theorem d1_0 : decode method_2_code 0 = .ok (.iload_n 0, 1) := by decide +kernel
theorem d1_1 : decode method_2_code 1 = .ok (.ifCond .ne 7, 3) := by decide +kernel
theorem d1_4 : decode method_2_code 4 = .ok (.getstatic 7, 3) := by decide +kernel
theorem d1_7 : decode method_2_code 7 = .ok (.areturn, 1) := by decide +kernel
theorem ef1_I (m : MethodId) (x0 : Int32) : entryFrame m #[(.int x0)] 1 = mkF m 0 #[.val (.int x0)] [] := by first | (simp [entryFrame, mkF, argsToLocals, Value.category]; done) | rfl
theorem pn0 : plainName "com/example/strict_credit/strictcredit/diameter/ResultCodeIsProtocolErrorPinLaw" = true := by first | (simp [plainName, overriddenIn]; done) | decide +kernel
theorem pd0 : parseMethodDescriptor "(I)Lcom/example/strict_credit/strictcredit/diameter/ResultCode;" = some ⟨[.int], some (.object "com/example/strict_credit/strictcredit/diameter/ResultCode")⟩ := by decide +kernel
theorem d2_0 : decode prog_39_method_4_code 0 = .ok (.aload_n 0, 1) := by decide +kernel
theorem d2_1 : decode prog_39_method_4_code 1 = .ok (.getfield 83, 3) := by decide +kernel
theorem d2_4 : decode prog_39_method_4_code 4 = .ok (.ireturn, 1) := by decide +kernel
theorem ef2_R (m : MethodId) (x0 : Addr) : entryFrame m #[(.ref x0)] 1 = mkF m 0 #[.val (.ref x0)] [] := by first | (simp [entryFrame, mkF, argsToLocals, Value.category]; done) | rfl
theorem pn1 : plainName "com/example/strict_credit/strictcredit/diameter/ResultCode" = true := by first | (simp [plainName, overriddenIn]; done) | decide +kernel
theorem pd1 : parseMethodDescriptor "()I" = some ⟨[], some .int⟩ := by decide +kernel
theorem d3_0 : decode prog_39_method_6_code 0 = .ok (.aload_n 0, 1) := by decide +kernel
theorem d3_1 : decode prog_39_method_6_code 1 = .ok (.getfield 83, 3) := by decide +kernel
theorem d3_4 : decode prog_39_method_6_code 4 = .ok (.sipush 1000, 3) := by decide +kernel
theorem d3_7 : decode prog_39_method_6_code 7 = .ok (.idiv, 1) := by decide +kernel
theorem d3_8 : decode prog_39_method_6_code 8 = .ok (.iconst 3, 1) := by decide +kernel
theorem d3_9 : decode prog_39_method_6_code 9 = .ok (.if_icmp .ne 7, 3) := by decide +kernel
theorem d3_16 : decode prog_39_method_6_code 16 = .ok (.iconst 0, 1) := by decide +kernel
theorem d3_17 : decode prog_39_method_6_code 17 = .ok (.ireturn, 1) := by decide +kernel
theorem ef3_R (m : MethodId) (x0 : Addr) : entryFrame m #[(.ref x0)] 1 = mkF m 0 #[.val (.ref x0)] [] := by first | (simp [entryFrame, mkF, argsToLocals, Value.category]; done) | rfl
theorem pd2 : parseMethodDescriptor "()Z" = some ⟨[], some .boolean⟩ := by decide +kernel
theorem d1_8 : decode method_2_code 8 = .ok (.iload_n 0, 1) := by decide +kernel
theorem d1_9 : decode method_2_code 9 = .ok (.iconst 1, 1) := by decide +kernel
theorem d1_10 : decode method_2_code 10 = .ok (.if_icmp .ne 7, 3) := by decide +kernel
theorem d1_13 : decode method_2_code 13 = .ok (.getstatic 13, 3) := by decide +kernel
theorem d1_16 : decode method_2_code 16 = .ok (.areturn, 1) := by decide +kernel
theorem d1_17 : decode method_2_code 17 = .ok (.iload_n 0, 1) := by decide +kernel
theorem d1_18 : decode method_2_code 18 = .ok (.iconst 2, 1) := by decide +kernel
theorem d1_19 : decode method_2_code 19 = .ok (.if_icmp .ne 7, 3) := by decide +kernel
theorem d1_22 : decode method_2_code 22 = .ok (.getstatic 16, 3) := by decide +kernel
theorem d1_25 : decode method_2_code 25 = .ok (.areturn, 1) := by decide +kernel
theorem d3_12 : decode prog_39_method_6_code 12 = .ok (.iconst 1, 1) := by decide +kernel
theorem d3_13 : decode prog_39_method_6_code 13 = .ok (.goto 4, 3) := by decide +kernel
theorem d1_26 : decode method_2_code 26 = .ok (.iload_n 0, 1) := by decide +kernel
theorem d1_27 : decode method_2_code 27 = .ok (.iconst 3, 1) := by decide +kernel
theorem d1_28 : decode method_2_code 28 = .ok (.if_icmp .ne 7, 3) := by decide +kernel
theorem d1_31 : decode method_2_code 31 = .ok (.getstatic 19, 3) := by decide +kernel
theorem d1_34 : decode method_2_code 34 = .ok (.areturn, 1) := by decide +kernel
theorem d1_35 : decode method_2_code 35 = .ok (.iload_n 0, 1) := by decide +kernel
theorem d1_36 : decode method_2_code 36 = .ok (.iconst 4, 1) := by decide +kernel
theorem d1_37 : decode method_2_code 37 = .ok (.if_icmp .ne 7, 3) := by decide +kernel
theorem d1_40 : decode method_2_code 40 = .ok (.getstatic 22, 3) := by decide +kernel
theorem d1_43 : decode method_2_code 43 = .ok (.areturn, 1) := by decide +kernel
theorem d1_44 : decode method_2_code 44 = .ok (.iload_n 0, 1) := by decide +kernel
theorem d1_45 : decode method_2_code 45 = .ok (.iconst 5, 1) := by decide +kernel
theorem d1_46 : decode method_2_code 46 = .ok (.if_icmp .ne 7, 3) := by decide +kernel
theorem d1_49 : decode method_2_code 49 = .ok (.getstatic 25, 3) := by decide +kernel
theorem d1_52 : decode method_2_code 52 = .ok (.areturn, 1) := by decide +kernel
theorem d1_53 : decode method_2_code 53 = .ok (.iload_n 0, 1) := by decide +kernel
theorem d1_54 : decode method_2_code 54 = .ok (.bipush 6, 2) := by decide +kernel
theorem d1_56 : decode method_2_code 56 = .ok (.if_icmp .ne 7, 3) := by decide +kernel
theorem d1_59 : decode method_2_code 59 = .ok (.getstatic 28, 3) := by decide +kernel
theorem d1_62 : decode method_2_code 62 = .ok (.areturn, 1) := by decide +kernel
theorem d1_63 : decode method_2_code 63 = .ok (.iload_n 0, 1) := by decide +kernel
theorem d1_64 : decode method_2_code 64 = .ok (.bipush 7, 2) := by decide +kernel
theorem d1_66 : decode method_2_code 66 = .ok (.if_icmp .ne 7, 3) := by decide +kernel
theorem d1_69 : decode method_2_code 69 = .ok (.getstatic 31, 3) := by decide +kernel
theorem d1_72 : decode method_2_code 72 = .ok (.areturn, 1) := by decide +kernel
theorem d1_73 : decode method_2_code 73 = .ok (.iload_n 0, 1) := by decide +kernel
theorem d1_74 : decode method_2_code 74 = .ok (.bipush 8, 2) := by decide +kernel
theorem d1_76 : decode method_2_code 76 = .ok (.if_icmp .ne 7, 3) := by decide +kernel
theorem d1_79 : decode method_2_code 79 = .ok (.getstatic 34, 3) := by decide +kernel
theorem d1_82 : decode method_2_code 82 = .ok (.areturn, 1) := by decide +kernel
theorem d1_83 : decode method_2_code 83 = .ok (.iload_n 0, 1) := by decide +kernel
theorem d1_84 : decode method_2_code 84 = .ok (.bipush 9, 2) := by decide +kernel
theorem d1_86 : decode method_2_code 86 = .ok (.if_icmp .ne 7, 3) := by decide +kernel
theorem d1_89 : decode method_2_code 89 = .ok (.getstatic 37, 3) := by decide +kernel
theorem d1_92 : decode method_2_code 92 = .ok (.areturn, 1) := by decide +kernel
theorem d1_93 : decode method_2_code 93 = .ok (.iload_n 0, 1) := by decide +kernel
theorem d1_94 : decode method_2_code 94 = .ok (.bipush 10, 2) := by decide +kernel
theorem d1_96 : decode method_2_code 96 = .ok (.if_icmp .ne 7, 3) := by decide +kernel
theorem d1_99 : decode method_2_code 99 = .ok (.getstatic 40, 3) := by decide +kernel
theorem d1_102 : decode method_2_code 102 = .ok (.areturn, 1) := by decide +kernel
theorem d1_103 : decode method_2_code 103 = .ok (.iload_n 0, 1) := by decide +kernel
theorem d1_104 : decode method_2_code 104 = .ok (.bipush 11, 2) := by decide +kernel
theorem d1_106 : decode method_2_code 106 = .ok (.if_icmp .ne 7, 3) := by decide +kernel
theorem d1_109 : decode method_2_code 109 = .ok (.getstatic 43, 3) := by decide +kernel
theorem d1_112 : decode method_2_code 112 = .ok (.areturn, 1) := by decide +kernel
theorem d1_113 : decode method_2_code 113 = .ok (.iload_n 0, 1) := by decide +kernel
theorem d1_114 : decode method_2_code 114 = .ok (.bipush 12, 2) := by decide +kernel
theorem d1_116 : decode method_2_code 116 = .ok (.if_icmp .ne 7, 3) := by decide +kernel
theorem d1_119 : decode method_2_code 119 = .ok (.getstatic 46, 3) := by decide +kernel
theorem d1_122 : decode method_2_code 122 = .ok (.areturn, 1) := by decide +kernel
theorem d1_123 : decode method_2_code 123 = .ok (.iload_n 0, 1) := by decide +kernel
theorem d1_124 : decode method_2_code 124 = .ok (.bipush 13, 2) := by decide +kernel
theorem d1_126 : decode method_2_code 126 = .ok (.if_icmp .ne 7, 3) := by decide +kernel
theorem d1_129 : decode method_2_code 129 = .ok (.getstatic 49, 3) := by decide +kernel
theorem d1_132 : decode method_2_code 132 = .ok (.areturn, 1) := by decide +kernel
theorem d1_133 : decode method_2_code 133 = .ok (.iload_n 0, 1) := by decide +kernel
theorem d1_134 : decode method_2_code 134 = .ok (.bipush 14, 2) := by decide +kernel
theorem d1_136 : decode method_2_code 136 = .ok (.if_icmp .ne 7, 3) := by decide +kernel
theorem d1_139 : decode method_2_code 139 = .ok (.getstatic 52, 3) := by decide +kernel
theorem d1_142 : decode method_2_code 142 = .ok (.areturn, 1) := by decide +kernel
theorem d1_143 : decode method_2_code 143 = .ok (.iload_n 0, 1) := by decide +kernel
theorem d1_144 : decode method_2_code 144 = .ok (.bipush 15, 2) := by decide +kernel
theorem d1_146 : decode method_2_code 146 = .ok (.if_icmp .ne 7, 3) := by decide +kernel
theorem d1_149 : decode method_2_code 149 = .ok (.getstatic 55, 3) := by decide +kernel
theorem d1_152 : decode method_2_code 152 = .ok (.areturn, 1) := by decide +kernel
theorem d1_153 : decode method_2_code 153 = .ok (.iload_n 0, 1) := by decide +kernel
theorem d1_154 : decode method_2_code 154 = .ok (.bipush 16, 2) := by decide +kernel
theorem d1_156 : decode method_2_code 156 = .ok (.if_icmp .ne 7, 3) := by decide +kernel
theorem d1_159 : decode method_2_code 159 = .ok (.getstatic 58, 3) := by decide +kernel
theorem d1_162 : decode method_2_code 162 = .ok (.areturn, 1) := by decide +kernel
theorem d1_163 : decode method_2_code 163 = .ok (.iload_n 0, 1) := by decide +kernel
theorem d1_164 : decode method_2_code 164 = .ok (.bipush 17, 2) := by decide +kernel
theorem d1_166 : decode method_2_code 166 = .ok (.if_icmp .ne 7, 3) := by decide +kernel
theorem d1_169 : decode method_2_code 169 = .ok (.getstatic 61, 3) := by decide +kernel
theorem d1_172 : decode method_2_code 172 = .ok (.areturn, 1) := by decide +kernel
theorem d1_173 : decode method_2_code 173 = .ok (.iload_n 0, 1) := by decide +kernel
theorem d1_174 : decode method_2_code 174 = .ok (.bipush 18, 2) := by decide +kernel
theorem d1_176 : decode method_2_code 176 = .ok (.if_icmp .ne 7, 3) := by decide +kernel
theorem d1_179 : decode method_2_code 179 = .ok (.getstatic 64, 3) := by decide +kernel
theorem d1_182 : decode method_2_code 182 = .ok (.areturn, 1) := by decide +kernel
theorem d1_183 : decode method_2_code 183 = .ok (.getstatic 67, 3) := by decide +kernel
theorem d1_186 : decode method_2_code 186 = .ok (.areturn, 1) := by decide +kernel
theorem ef0_I (m : MethodId) (x0 : Int32) : entryFrame m #[(.int x0)] maxLocals = mkF m 0 #[.val (.int x0), .unset, .unset, .unset, .unset, .unset] [] := by first | (simp [entryFrame, mkF, argsToLocals, Value.category, maxLocals]; done) | rfl
set_option maxRecDepth 65536 in
set_option maxHeartbeats 40000000 in
theorem r1_0 (l : Launch) (Z : State) (a0 : Array Value) (hw : ∀ d ∈ tables_1, d.before a0 Z = true) (ws : List Jvm.Cond) (h0 : Heap) (n0 : Nat) (Z0 : n0 ≤ h0.size) (w : Nat → Addr) (P : Pins Z h0 w) :
    MetFree l (⟨"com/example/strict_credit/strictcredit/diameter/ResultCodeIsProtocolErrorPinLaw", "pick", "(I)Lcom/example/strict_credit/strictcredit/diameter/ResultCode;"⟩ : MethodName) (head1 (Jvm.Cond.code (⟨"com/example/strict_credit/strictcredit/diameter/ResultCodeIsProtocolErrorPinLaw", "pick", "(I)Lcom/example/strict_credit/strictcredit/diameter/ResultCode;"⟩ : MethodName) method_2_code 1 (some (.object "com/example/strict_credit/strictcredit/diameter/ResultCode")) :: ws) ({ frames := 0, cells := 0, slots := 0, locals := 0 } : Room)) (fun a U => a = #[(.int (0 : Int32))] ∧ Z.Warmed39 U.vm ∧ U.heap = h0) (fun _ _ _ _ _ => True) (fun _ U o U' => ∃ v L, o = .returned v ∧ QP (some (.ref (w 0))) h0 n0 v U'.heap L ∧ FrameEnd U o U' L ({ frames := 0, cells := 0, slots := 0, locals := 0 } : Room).cells ({ frames := 0, cells := 0, slots := 0, locals := 0 } : Room).slots) := by
  refine MetFree.of_bodySF (plainFor_of_name pn0) hisR ?_
  intro p e s m args below meth c s₁ Bd hml0 hP hK
  obtain ⟨rfl, hZ, hh⟩ := hP
  have hx := Bd.exec
  have hby := Bd.bytes
  have hml : c.maxLocals = 1 := hml0
  have hown : s.vm.findClass "com/example/strict_credit/strictcredit/diameter/ResultCodeIsProtocolErrorPinLaw" = some m.cls := findClass_of_methodNamed Bd.named
  have hnm := (name_of_methodNamed Bd.named Bd.method).1
  have X0 : Stand p l e ({ frames := 0, cells := 0, slots := 0, locals := 0 } : Room) s m #[(.int (0 : Int32))] below meth c s₁ [] 0 0 := Stand.of_body Bd
  have e0 : s₁.heap = h0 := by rw [← hh, Bd.state]; rfl
  have N0 := Fr.nil n0
  refine Goes.out (Goes.by (fun tz kz => castTop (ef1_I m ((0 : Int32))) kz) ?_)
  show Goes p e below (s₁.setTop (mkF m 0 #[.val (.int (0 : Int32))] [])) _
  refine Goes.by (fun _ kz => XS.iloadN X0.here hx rfl (hb hby d1_0) rfl (XS.ifNo X0.here hx rfl (hb hby d1_1) rfl ((if0 _ _).trans (teq (by decide : (0 : Int32) = (0 : Int32))).2) kz)) ?_
  obtain ⟨T1, X1, e1, st1⟩ := getS2 X0 hx hZ hown (host := "") (Or.inl (hw _ (List.mem_of_getElem? (i := 5) rfl))) Via.refl e0 P.1 (g := (mkF m 4 #[.val (.int (0 : Int32))] [])) rfl (hb hby d1_4)
  refine Goes.by st1 ?_
  show Goes p e below (T1.setTop (mkF m 7 #[.val (.int (0 : Int32))] [(.ref (w 0))])) _
  obtain ⟨fs, hr, hrun, hended, hW, hsame⟩ := X1.leave (v := some (.ref (w 0))) (fun h => by rw [Bd.returns] at h; cases h)
  exact ⟨_, _, retOut X1 hx (t := (.object "com/example/strict_credit/strictcredit/diameter/ResultCode")) Bd.returns rfl (Or.inr (Or.inr (Or.inr (Or.inr ⟨rfl, rfl, rfl⟩)))) (hb hby d1_7) hr, hrun, hended, _, _, rfl, ⟨rfl, N0, e1⟩, ⟨_, rfl⟩, hW, hsame.mono (by decide) (by decide)⟩
set_option maxRecDepth 65536 in
set_option maxHeartbeats 40000000 in
theorem r2_1 (l : Launch) (Z : State) (a0 : Array Value) (hw : ∀ d ∈ tables_1, d.before a0 Z = true) (ws : List Jvm.Cond) (h0 : Heap) (n0 : Nat) (Z0 : n0 ≤ h0.size) (w : Nat → Addr) (P : Pins Z h0 w) :
    MetFree l (⟨"com/example/strict_credit/strictcredit/diameter/ResultCode", "code", "()I"⟩ : MethodName) (head1 (Jvm.Cond.code (⟨"com/example/strict_credit/strictcredit/diameter/ResultCode", "code", "()I"⟩ : MethodName) prog_39_method_4_code 1 (some .int) :: ws) ({ frames := 0, cells := 0, slots := 0, locals := 0 } : Room)) (fun a U => a = #[(.ref (w 0))] ∧ Z.Warmed39 U.vm ∧ U.heap = h0) (fun _ _ _ _ _ => True) (fun _ U o U' => ∃ v L, o = .returned v ∧ QP (some (.int (2001 : Int32))) h0 n0 v U'.heap L ∧ FrameEnd U o U' L ({ frames := 0, cells := 0, slots := 0, locals := 0 } : Room).cells ({ frames := 0, cells := 0, slots := 0, locals := 0 } : Room).slots) := by
  refine MetFree.of_bodySF (plainFor_of_name pn1) hisR ?_
  intro p e s m args below meth c s₁ Bd hml0 hP hK
  obtain ⟨rfl, hZ, hh⟩ := hP
  have hx := Bd.exec
  have hby := Bd.bytes
  have hml : c.maxLocals = 1 := hml0
  have hown : s.vm.findClass "com/example/strict_credit/strictcredit/diameter/ResultCode" = some m.cls := findClass_of_methodNamed Bd.named
  have hnm := (name_of_methodNamed Bd.named Bd.method).1
  have X0 : Stand p l e ({ frames := 0, cells := 0, slots := 0, locals := 0 } : Room) s m #[(.ref (w 0))] below meth c s₁ [] 0 0 := Stand.of_body Bd
  have e0 : s₁.heap = h0 := by rw [← hh, Bd.state]; rfl
  have N0 := Fr.nil n0
  refine Goes.out (Goes.by (fun tz kz => castTop (ef2_R m ((w 0))) kz) ?_)
  show Goes p e below (s₁.setTop (mkF m 0 #[.val (.ref (w 0))] [])) _
  refine Goes.by (fun _ kz => XS.aloadN X0.here hx rfl (hb hby d2_0) rfl rfl kz) ?_
  obtain ⟨T7, X7, e7, st7⟩ := getF X0 hx hZ hown (host := "") (Or.inl (hw _ (List.mem_of_getElem? (i := 21) rfl))) Via.refl e0 P.2.2.2.2.2.2.2.2.2.2.2.2.2.2.2.2.2.2.2.2.2.2.2.2.2.2.2.2.2.2.2.2.2.2.2.2.2.2.2.2.2.2.2.2.2.1 (g := (mkF m 1 #[.val (.ref (w 0))] [(.ref (w 0))])) rfl rfl (hb hby d2_1)
  refine Goes.by st7 ?_
  show Goes p e below (T7.setTop (mkF m 4 #[.val (.ref (w 0))] [(.int (2001 : Int32))])) _
  obtain ⟨fs, hr, hrun, hended, hW, hsame⟩ := X7.leave (v := some (.int (2001 : Int32))) (fun h => by rw [Bd.returns] at h; cases h)
  exact ⟨_, _, retOut X7 hx (t := .int) Bd.returns rfl (Or.inl ⟨rfl, Or.inl rfl, _, rfl⟩) (hb hby d2_4) hr, hrun, hended, _, _, rfl, ⟨rfl, N0, e7⟩, ⟨_, rfl⟩, hW, hsame.mono (by decide) (by decide)⟩
set_option maxRecDepth 65536 in
set_option maxHeartbeats 40000000 in
theorem r3_2 (l : Launch) (Z : State) (a0 : Array Value) (hw : ∀ d ∈ tables_1, d.before a0 Z = true) (ws : List Jvm.Cond) (h0 : Heap) (n0 : Nat) (Z0 : n0 ≤ h0.size) (w : Nat → Addr) (P : Pins Z h0 w) :
    MetFree l (⟨"com/example/strict_credit/strictcredit/diameter/ResultCode", "isProtocolError", "()Z"⟩ : MethodName) (head1 (Jvm.Cond.code (⟨"com/example/strict_credit/strictcredit/diameter/ResultCode", "isProtocolError", "()Z"⟩ : MethodName) prog_39_method_6_code 1 (some .boolean) :: ws) ({ frames := 0, cells := 0, slots := 0, locals := 0 } : Room)) (fun a U => a = #[(.ref (w 0))] ∧ Z.Warmed39 U.vm ∧ U.heap = h0) (fun _ _ _ _ _ => True) (fun _ U o U' => ∃ v L, o = .returned v ∧ QP (some (.int (0 : Int32))) h0 n0 v U'.heap L ∧ FrameEnd U o U' L ({ frames := 0, cells := 0, slots := 0, locals := 0 } : Room).cells ({ frames := 0, cells := 0, slots := 0, locals := 0 } : Room).slots) := by
  refine MetFree.of_bodySF (plainFor_of_name pn1) hisR ?_
  intro p e s m args below meth c s₁ Bd hml0 hP hK
  obtain ⟨rfl, hZ, hh⟩ := hP
  have hx := Bd.exec
  have hby := Bd.bytes
  have hml : c.maxLocals = 1 := hml0
  have hown : s.vm.findClass "com/example/strict_credit/strictcredit/diameter/ResultCode" = some m.cls := findClass_of_methodNamed Bd.named
  have hnm := (name_of_methodNamed Bd.named Bd.method).1
  have X0 : Stand p l e ({ frames := 0, cells := 0, slots := 0, locals := 0 } : Room) s m #[(.ref (w 0))] below meth c s₁ [] 0 0 := Stand.of_body Bd
  have e0 : s₁.heap = h0 := by rw [← hh, Bd.state]; rfl
  have N0 := Fr.nil n0
  refine Goes.out (Goes.by (fun tz kz => castTop (ef3_R m ((w 0))) kz) ?_)
  show Goes p e below (s₁.setTop (mkF m 0 #[.val (.ref (w 0))] [])) _
  refine Goes.by (fun _ kz => XS.aloadN X0.here hx rfl (hb hby d3_0) rfl rfl kz) ?_
  obtain ⟨T9, X9, e9, st9⟩ := getF X0 hx hZ hown (host := "") (Or.inl (hw _ (List.mem_of_getElem? (i := 21) rfl))) Via.refl e0 P.2.2.2.2.2.2.2.2.2.2.2.2.2.2.2.2.2.2.2.2.2.2.2.2.2.2.2.2.2.2.2.2.2.2.2.2.2.2.2.2.2.2.2.2.2.1 (g := (mkF m 1 #[.val (.ref (w 0))] [(.ref (w 0))])) rfl rfl (hb hby d3_1)
  refine Goes.by st9 ?_
  refine Goes.by (fun _ kz => XS.sipush X9.here hx rfl (hb hby d3_4) (XS.idiv X9.here hx rfl (hb hby d3_7) rfl (by decide) kz)) ?_
  show Goes p e below (T9.setTop (mkF m 8 #[.val (.ref (w 0))] [(.int ((2001 : Int32) / (1000 : Int32)))])) _
  rw [show (((2001 : Int32) / (1000 : Int32)) : Int32) = (2 : Int32) from by decide]
  show Goes p e below (T9.setTop (mkF m 8 #[.val (.ref (w 0))] [(.int (2 : Int32))])) _
  refine Goes.by (fun _ kz => XS.iconst X9.here hx rfl (hb hby d3_8) (XS.icmpYes X9.here hx rfl (pc0 := 9) (pc' := 16) rfl (hb hby d3_9) rfl (feq (by decide : ¬ ((2 : Int32) = (3 : Int32)))).2 (by decide) (by decide) (XS.iconst X9.here hx rfl (hb hby d3_16) kz))) ?_
  show Goes p e below (T9.setTop (mkF m 17 #[.val (.ref (w 0))] [(.int (0 : Int32))])) _
  obtain ⟨fs, hr, hrun, hended, hW, hsame⟩ := X9.leave (v := some (.int (0 : Int32))) (fun h => by rw [Bd.returns] at h; cases h)
  exact ⟨_, _, retN X9 hx (t := .boolean) Bd.returns (by simp) (hb hby d3_17) hr, hrun, hended, _, _, rfl, ⟨rfl, N0, e9⟩, ⟨_, rfl⟩, hW, hsame.mono (by decide) (by decide)⟩
set_option maxRecDepth 65536 in
set_option maxHeartbeats 40000000 in
theorem r1_3 (l : Launch) (Z : State) (a0 : Array Value) (hw : ∀ d ∈ tables_1, d.before a0 Z = true) (ws : List Jvm.Cond) (h0 : Heap) (n0 : Nat) (Z0 : n0 ≤ h0.size) (w : Nat → Addr) (P : Pins Z h0 w) :
    MetFree l (⟨"com/example/strict_credit/strictcredit/diameter/ResultCodeIsProtocolErrorPinLaw", "pick", "(I)Lcom/example/strict_credit/strictcredit/diameter/ResultCode;"⟩ : MethodName) (head1 (Jvm.Cond.code (⟨"com/example/strict_credit/strictcredit/diameter/ResultCodeIsProtocolErrorPinLaw", "pick", "(I)Lcom/example/strict_credit/strictcredit/diameter/ResultCode;"⟩ : MethodName) method_2_code 1 (some (.object "com/example/strict_credit/strictcredit/diameter/ResultCode")) :: ws) ({ frames := 0, cells := 0, slots := 0, locals := 0 } : Room)) (fun a U => a = #[(.int (1 : Int32))] ∧ Z.Warmed39 U.vm ∧ U.heap = h0) (fun _ _ _ _ _ => True) (fun _ U o U' => ∃ v L, o = .returned v ∧ QP (some (.ref (w 10))) h0 n0 v U'.heap L ∧ FrameEnd U o U' L ({ frames := 0, cells := 0, slots := 0, locals := 0 } : Room).cells ({ frames := 0, cells := 0, slots := 0, locals := 0 } : Room).slots) := by
  refine MetFree.of_bodySF (plainFor_of_name pn0) hisR ?_
  intro p e s m args below meth c s₁ Bd hml0 hP hK
  obtain ⟨rfl, hZ, hh⟩ := hP
  have hx := Bd.exec
  have hby := Bd.bytes
  have hml : c.maxLocals = 1 := hml0
  have hown : s.vm.findClass "com/example/strict_credit/strictcredit/diameter/ResultCodeIsProtocolErrorPinLaw" = some m.cls := findClass_of_methodNamed Bd.named
  have hnm := (name_of_methodNamed Bd.named Bd.method).1
  have X0 : Stand p l e ({ frames := 0, cells := 0, slots := 0, locals := 0 } : Room) s m #[(.int (1 : Int32))] below meth c s₁ [] 0 0 := Stand.of_body Bd
  have e0 : s₁.heap = h0 := by rw [← hh, Bd.state]; rfl
  have N0 := Fr.nil n0
  refine Goes.out (Goes.by (fun tz kz => castTop (ef1_I m ((1 : Int32))) kz) ?_)
  show Goes p e below (s₁.setTop (mkF m 0 #[.val (.int (1 : Int32))] [])) _
  refine Goes.by (fun _ kz => XS.iloadN X0.here hx rfl (hb hby d1_0) rfl (XS.ifYes X0.here hx rfl (pc0 := 1) (pc' := 8) rfl (hb hby d1_1) rfl ((if0 _ _).trans (feq (by decide : ¬ ((1 : Int32) = (0 : Int32)))).2) (by decide) (by decide) (XS.iloadN X0.here hx rfl (hb hby d1_8) rfl kz))) ?_
  show Goes p e below (s₁.setTop (mkF m 9 #[.val (.int (1 : Int32))] [(.int (1 : Int32))])) _
  refine Goes.by (fun _ kz => XS.iconst X0.here hx rfl (hb hby d1_9) (XS.icmpNo X0.here hx rfl (hb hby d1_10) rfl (teq (by decide : (1 : Int32) = (1 : Int32))).2 kz)) ?_
  obtain ⟨T11, X11, e11, st11⟩ := getS2 X0 hx hZ hown (host := "") (Or.inl (hw _ (List.mem_of_getElem? (i := 38) rfl))) Via.refl e0 P.2.2.2.2.2.2.2.2.2.2.2.2.2.2.2.2.2.2.2.2.1 (g := (mkF m 13 #[.val (.int (1 : Int32))] [])) rfl (hb hby d1_13)
  refine Goes.by st11 ?_
  show Goes p e below (T11.setTop (mkF m 16 #[.val (.int (1 : Int32))] [(.ref (w 10))])) _
  obtain ⟨fs, hr, hrun, hended, hW, hsame⟩ := X11.leave (v := some (.ref (w 10))) (fun h => by rw [Bd.returns] at h; cases h)
  exact ⟨_, _, retOut X11 hx (t := (.object "com/example/strict_credit/strictcredit/diameter/ResultCode")) Bd.returns rfl (Or.inr (Or.inr (Or.inr (Or.inr ⟨rfl, rfl, rfl⟩)))) (hb hby d1_16) hr, hrun, hended, _, _, rfl, ⟨rfl, N0, e11⟩, ⟨_, rfl⟩, hW, hsame.mono (by decide) (by decide)⟩
set_option maxRecDepth 65536 in
set_option maxHeartbeats 40000000 in
theorem r2_4 (l : Launch) (Z : State) (a0 : Array Value) (hw : ∀ d ∈ tables_1, d.before a0 Z = true) (ws : List Jvm.Cond) (h0 : Heap) (n0 : Nat) (Z0 : n0 ≤ h0.size) (w : Nat → Addr) (P : Pins Z h0 w) :
    MetFree l (⟨"com/example/strict_credit/strictcredit/diameter/ResultCode", "code", "()I"⟩ : MethodName) (head1 (Jvm.Cond.code (⟨"com/example/strict_credit/strictcredit/diameter/ResultCode", "code", "()I"⟩ : MethodName) prog_39_method_4_code 1 (some .int) :: ws) ({ frames := 0, cells := 0, slots := 0, locals := 0 } : Room)) (fun a U => a = #[(.ref (w 10))] ∧ Z.Warmed39 U.vm ∧ U.heap = h0) (fun _ _ _ _ _ => True) (fun _ U o U' => ∃ v L, o = .returned v ∧ QP (some (.int (2002 : Int32))) h0 n0 v U'.heap L ∧ FrameEnd U o U' L ({ frames := 0, cells := 0, slots := 0, locals := 0 } : Room).cells ({ frames := 0, cells := 0, slots := 0, locals := 0 } : Room).slots) := by
  refine MetFree.of_bodySF (plainFor_of_name pn1) hisR ?_
  intro p e s m args below meth c s₁ Bd hml0 hP hK
  obtain ⟨rfl, hZ, hh⟩ := hP
  have hx := Bd.exec
  have hby := Bd.bytes
  have hml : c.maxLocals = 1 := hml0
  have hown : s.vm.findClass "com/example/strict_credit/strictcredit/diameter/ResultCode" = some m.cls := findClass_of_methodNamed Bd.named
  have hnm := (name_of_methodNamed Bd.named Bd.method).1
  have X0 : Stand p l e ({ frames := 0, cells := 0, slots := 0, locals := 0 } : Room) s m #[(.ref (w 10))] below meth c s₁ [] 0 0 := Stand.of_body Bd
  have e0 : s₁.heap = h0 := by rw [← hh, Bd.state]; rfl
  have N0 := Fr.nil n0
  refine Goes.out (Goes.by (fun tz kz => castTop (ef2_R m ((w 10))) kz) ?_)
  show Goes p e below (s₁.setTop (mkF m 0 #[.val (.ref (w 10))] [])) _
  refine Goes.by (fun _ kz => XS.aloadN X0.here hx rfl (hb hby d2_0) rfl rfl kz) ?_
  obtain ⟨T17, X17, e17, st17⟩ := getF X0 hx hZ hown (host := "") (Or.inl (hw _ (List.mem_of_getElem? (i := 21) rfl))) Via.refl e0 P.2.2.2.2.2.2.2.2.2.2.2.2.2.2.2.2.2.2.2.2.2.2.2.2.2.2.2.2.2.2.2.2.2.2.2.2.2.2.2.2.2.2.2.2.2.2.2.2.2.2.2.2.2.2.2.2.2.2.2.1 (g := (mkF m 1 #[.val (.ref (w 10))] [(.ref (w 10))])) rfl rfl (hb hby d2_1)
  refine Goes.by st17 ?_
  show Goes p e below (T17.setTop (mkF m 4 #[.val (.ref (w 10))] [(.int (2002 : Int32))])) _
  obtain ⟨fs, hr, hrun, hended, hW, hsame⟩ := X17.leave (v := some (.int (2002 : Int32))) (fun h => by rw [Bd.returns] at h; cases h)
  exact ⟨_, _, retOut X17 hx (t := .int) Bd.returns rfl (Or.inl ⟨rfl, Or.inl rfl, _, rfl⟩) (hb hby d2_4) hr, hrun, hended, _, _, rfl, ⟨rfl, N0, e17⟩, ⟨_, rfl⟩, hW, hsame.mono (by decide) (by decide)⟩
set_option maxRecDepth 65536 in
set_option maxHeartbeats 40000000 in
theorem r3_5 (l : Launch) (Z : State) (a0 : Array Value) (hw : ∀ d ∈ tables_1, d.before a0 Z = true) (ws : List Jvm.Cond) (h0 : Heap) (n0 : Nat) (Z0 : n0 ≤ h0.size) (w : Nat → Addr) (P : Pins Z h0 w) :
    MetFree l (⟨"com/example/strict_credit/strictcredit/diameter/ResultCode", "isProtocolError", "()Z"⟩ : MethodName) (head1 (Jvm.Cond.code (⟨"com/example/strict_credit/strictcredit/diameter/ResultCode", "isProtocolError", "()Z"⟩ : MethodName) prog_39_method_6_code 1 (some .boolean) :: ws) ({ frames := 0, cells := 0, slots := 0, locals := 0 } : Room)) (fun a U => a = #[(.ref (w 10))] ∧ Z.Warmed39 U.vm ∧ U.heap = h0) (fun _ _ _ _ _ => True) (fun _ U o U' => ∃ v L, o = .returned v ∧ QP (some (.int (0 : Int32))) h0 n0 v U'.heap L ∧ FrameEnd U o U' L ({ frames := 0, cells := 0, slots := 0, locals := 0 } : Room).cells ({ frames := 0, cells := 0, slots := 0, locals := 0 } : Room).slots) := by
  refine MetFree.of_bodySF (plainFor_of_name pn1) hisR ?_
  intro p e s m args below meth c s₁ Bd hml0 hP hK
  obtain ⟨rfl, hZ, hh⟩ := hP
  have hx := Bd.exec
  have hby := Bd.bytes
  have hml : c.maxLocals = 1 := hml0
  have hown : s.vm.findClass "com/example/strict_credit/strictcredit/diameter/ResultCode" = some m.cls := findClass_of_methodNamed Bd.named
  have hnm := (name_of_methodNamed Bd.named Bd.method).1
  have X0 : Stand p l e ({ frames := 0, cells := 0, slots := 0, locals := 0 } : Room) s m #[(.ref (w 10))] below meth c s₁ [] 0 0 := Stand.of_body Bd
  have e0 : s₁.heap = h0 := by rw [← hh, Bd.state]; rfl
  have N0 := Fr.nil n0
  refine Goes.out (Goes.by (fun tz kz => castTop (ef3_R m ((w 10))) kz) ?_)
  show Goes p e below (s₁.setTop (mkF m 0 #[.val (.ref (w 10))] [])) _
  refine Goes.by (fun _ kz => XS.aloadN X0.here hx rfl (hb hby d3_0) rfl rfl kz) ?_
  obtain ⟨T19, X19, e19, st19⟩ := getF X0 hx hZ hown (host := "") (Or.inl (hw _ (List.mem_of_getElem? (i := 21) rfl))) Via.refl e0 P.2.2.2.2.2.2.2.2.2.2.2.2.2.2.2.2.2.2.2.2.2.2.2.2.2.2.2.2.2.2.2.2.2.2.2.2.2.2.2.2.2.2.2.2.2.2.2.2.2.2.2.2.2.2.2.2.2.2.2.1 (g := (mkF m 1 #[.val (.ref (w 10))] [(.ref (w 10))])) rfl rfl (hb hby d3_1)
  refine Goes.by st19 ?_
  refine Goes.by (fun _ kz => XS.sipush X19.here hx rfl (hb hby d3_4) (XS.idiv X19.here hx rfl (hb hby d3_7) rfl (by decide) kz)) ?_
  show Goes p e below (T19.setTop (mkF m 8 #[.val (.ref (w 10))] [(.int ((2002 : Int32) / (1000 : Int32)))])) _
  rw [show (((2002 : Int32) / (1000 : Int32)) : Int32) = (2 : Int32) from by decide]
  show Goes p e below (T19.setTop (mkF m 8 #[.val (.ref (w 10))] [(.int (2 : Int32))])) _
  refine Goes.by (fun _ kz => XS.iconst X19.here hx rfl (hb hby d3_8) (XS.icmpYes X19.here hx rfl (pc0 := 9) (pc' := 16) rfl (hb hby d3_9) rfl (feq (by decide : ¬ ((2 : Int32) = (3 : Int32)))).2 (by decide) (by decide) (XS.iconst X19.here hx rfl (hb hby d3_16) kz))) ?_
  show Goes p e below (T19.setTop (mkF m 17 #[.val (.ref (w 10))] [(.int (0 : Int32))])) _
  obtain ⟨fs, hr, hrun, hended, hW, hsame⟩ := X19.leave (v := some (.int (0 : Int32))) (fun h => by rw [Bd.returns] at h; cases h)
  exact ⟨_, _, retN X19 hx (t := .boolean) Bd.returns (by simp) (hb hby d3_17) hr, hrun, hended, _, _, rfl, ⟨rfl, N0, e19⟩, ⟨_, rfl⟩, hW, hsame.mono (by decide) (by decide)⟩
set_option maxRecDepth 65536 in
set_option maxHeartbeats 40000000 in
theorem r1_6 (l : Launch) (Z : State) (a0 : Array Value) (hw : ∀ d ∈ tables_1, d.before a0 Z = true) (ws : List Jvm.Cond) (h0 : Heap) (n0 : Nat) (Z0 : n0 ≤ h0.size) (w : Nat → Addr) (P : Pins Z h0 w) :
    MetFree l (⟨"com/example/strict_credit/strictcredit/diameter/ResultCodeIsProtocolErrorPinLaw", "pick", "(I)Lcom/example/strict_credit/strictcredit/diameter/ResultCode;"⟩ : MethodName) (head1 (Jvm.Cond.code (⟨"com/example/strict_credit/strictcredit/diameter/ResultCodeIsProtocolErrorPinLaw", "pick", "(I)Lcom/example/strict_credit/strictcredit/diameter/ResultCode;"⟩ : MethodName) method_2_code 1 (some (.object "com/example/strict_credit/strictcredit/diameter/ResultCode")) :: ws) ({ frames := 0, cells := 0, slots := 0, locals := 0 } : Room)) (fun a U => a = #[(.int (2 : Int32))] ∧ Z.Warmed39 U.vm ∧ U.heap = h0) (fun _ _ _ _ _ => True) (fun _ U o U' => ∃ v L, o = .returned v ∧ QP (some (.ref (w 1))) h0 n0 v U'.heap L ∧ FrameEnd U o U' L ({ frames := 0, cells := 0, slots := 0, locals := 0 } : Room).cells ({ frames := 0, cells := 0, slots := 0, locals := 0 } : Room).slots) := by
  refine MetFree.of_bodySF (plainFor_of_name pn0) hisR ?_
  intro p e s m args below meth c s₁ Bd hml0 hP hK
  obtain ⟨rfl, hZ, hh⟩ := hP
  have hx := Bd.exec
  have hby := Bd.bytes
  have hml : c.maxLocals = 1 := hml0
  have hown : s.vm.findClass "com/example/strict_credit/strictcredit/diameter/ResultCodeIsProtocolErrorPinLaw" = some m.cls := findClass_of_methodNamed Bd.named
  have hnm := (name_of_methodNamed Bd.named Bd.method).1
  have X0 : Stand p l e ({ frames := 0, cells := 0, slots := 0, locals := 0 } : Room) s m #[(.int (2 : Int32))] below meth c s₁ [] 0 0 := Stand.of_body Bd
  have e0 : s₁.heap = h0 := by rw [← hh, Bd.state]; rfl
  have N0 := Fr.nil n0
  refine Goes.out (Goes.by (fun tz kz => castTop (ef1_I m ((2 : Int32))) kz) ?_)
  show Goes p e below (s₁.setTop (mkF m 0 #[.val (.int (2 : Int32))] [])) _
  refine Goes.by (fun _ kz => XS.iloadN X0.here hx rfl (hb hby d1_0) rfl (XS.ifYes X0.here hx rfl (pc0 := 1) (pc' := 8) rfl (hb hby d1_1) rfl ((if0 _ _).trans (feq (by decide : ¬ ((2 : Int32) = (0 : Int32)))).2) (by decide) (by decide) (XS.iloadN X0.here hx rfl (hb hby d1_8) rfl kz))) ?_
  show Goes p e below (s₁.setTop (mkF m 9 #[.val (.int (2 : Int32))] [(.int (2 : Int32))])) _
  refine Goes.by (fun _ kz => XS.iconst X0.here hx rfl (hb hby d1_9) (XS.icmpYes X0.here hx rfl (pc0 := 10) (pc' := 17) rfl (hb hby d1_10) rfl (feq (by decide : ¬ ((2 : Int32) = (1 : Int32)))).2 (by decide) (by decide) (XS.iloadN X0.here hx rfl (hb hby d1_17) rfl kz))) ?_
  show Goes p e below (s₁.setTop (mkF m 18 #[.val (.int (2 : Int32))] [(.int (2 : Int32))])) _
  refine Goes.by (fun _ kz => XS.iconst X0.here hx rfl (hb hby d1_18) (XS.icmpNo X0.here hx rfl (hb hby d1_19) rfl (teq (by decide : (2 : Int32) = (2 : Int32))).2 kz)) ?_
  obtain ⟨T21, X21, e21, st21⟩ := getS2 X0 hx hZ hown (host := "") (Or.inl (hw _ (List.mem_of_getElem? (i := 8) rfl))) Via.refl e0 P.2.2.1 (g := (mkF m 22 #[.val (.int (2 : Int32))] [])) rfl (hb hby d1_22)
  refine Goes.by st21 ?_
  show Goes p e below (T21.setTop (mkF m 25 #[.val (.int (2 : Int32))] [(.ref (w 1))])) _
  obtain ⟨fs, hr, hrun, hended, hW, hsame⟩ := X21.leave (v := some (.ref (w 1))) (fun h => by rw [Bd.returns] at h; cases h)
  exact ⟨_, _, retOut X21 hx (t := (.object "com/example/strict_credit/strictcredit/diameter/ResultCode")) Bd.returns rfl (Or.inr (Or.inr (Or.inr (Or.inr ⟨rfl, rfl, rfl⟩)))) (hb hby d1_25) hr, hrun, hended, _, _, rfl, ⟨rfl, N0, e21⟩, ⟨_, rfl⟩, hW, hsame.mono (by decide) (by decide)⟩
set_option maxRecDepth 65536 in
set_option maxHeartbeats 40000000 in
theorem r2_7 (l : Launch) (Z : State) (a0 : Array Value) (hw : ∀ d ∈ tables_1, d.before a0 Z = true) (ws : List Jvm.Cond) (h0 : Heap) (n0 : Nat) (Z0 : n0 ≤ h0.size) (w : Nat → Addr) (P : Pins Z h0 w) :
    MetFree l (⟨"com/example/strict_credit/strictcredit/diameter/ResultCode", "code", "()I"⟩ : MethodName) (head1 (Jvm.Cond.code (⟨"com/example/strict_credit/strictcredit/diameter/ResultCode", "code", "()I"⟩ : MethodName) prog_39_method_4_code 1 (some .int) :: ws) ({ frames := 0, cells := 0, slots := 0, locals := 0 } : Room)) (fun a U => a = #[(.ref (w 1))] ∧ Z.Warmed39 U.vm ∧ U.heap = h0) (fun _ _ _ _ _ => True) (fun _ U o U' => ∃ v L, o = .returned v ∧ QP (some (.int (3001 : Int32))) h0 n0 v U'.heap L ∧ FrameEnd U o U' L ({ frames := 0, cells := 0, slots := 0, locals := 0 } : Room).cells ({ frames := 0, cells := 0, slots := 0, locals := 0 } : Room).slots) := by
  refine MetFree.of_bodySF (plainFor_of_name pn1) hisR ?_
  intro p e s m args below meth c s₁ Bd hml0 hP hK
  obtain ⟨rfl, hZ, hh⟩ := hP
  have hx := Bd.exec
  have hby := Bd.bytes
  have hml : c.maxLocals = 1 := hml0
  have hown : s.vm.findClass "com/example/strict_credit/strictcredit/diameter/ResultCode" = some m.cls := findClass_of_methodNamed Bd.named
  have hnm := (name_of_methodNamed Bd.named Bd.method).1
  have X0 : Stand p l e ({ frames := 0, cells := 0, slots := 0, locals := 0 } : Room) s m #[(.ref (w 1))] below meth c s₁ [] 0 0 := Stand.of_body Bd
  have e0 : s₁.heap = h0 := by rw [← hh, Bd.state]; rfl
  have N0 := Fr.nil n0
  refine Goes.out (Goes.by (fun tz kz => castTop (ef2_R m ((w 1))) kz) ?_)
  show Goes p e below (s₁.setTop (mkF m 0 #[.val (.ref (w 1))] [])) _
  refine Goes.by (fun _ kz => XS.aloadN X0.here hx rfl (hb hby d2_0) rfl rfl kz) ?_
  obtain ⟨T24, X24, e24, st24⟩ := getF X0 hx hZ hown (host := "") (Or.inl (hw _ (List.mem_of_getElem? (i := 21) rfl))) Via.refl e0 P.2.2.2.2.2.2.2.2.2.2.2.2.2.2.2.2.2.2.2.2.2.2.2.2.2.2.2.2.2.2.2.2.2.2.2.2.2.2.2.2.2.2.2.2.2.2.2.2.2.2.2.2.2.2.2.1 (g := (mkF m 1 #[.val (.ref (w 1))] [(.ref (w 1))])) rfl rfl (hb hby d2_1)
  refine Goes.by st24 ?_
  show Goes p e below (T24.setTop (mkF m 4 #[.val (.ref (w 1))] [(.int (3001 : Int32))])) _
  obtain ⟨fs, hr, hrun, hended, hW, hsame⟩ := X24.leave (v := some (.int (3001 : Int32))) (fun h => by rw [Bd.returns] at h; cases h)
  exact ⟨_, _, retOut X24 hx (t := .int) Bd.returns rfl (Or.inl ⟨rfl, Or.inl rfl, _, rfl⟩) (hb hby d2_4) hr, hrun, hended, _, _, rfl, ⟨rfl, N0, e24⟩, ⟨_, rfl⟩, hW, hsame.mono (by decide) (by decide)⟩
set_option maxRecDepth 65536 in
set_option maxHeartbeats 40000000 in
theorem r3_8 (l : Launch) (Z : State) (a0 : Array Value) (hw : ∀ d ∈ tables_1, d.before a0 Z = true) (ws : List Jvm.Cond) (h0 : Heap) (n0 : Nat) (Z0 : n0 ≤ h0.size) (w : Nat → Addr) (P : Pins Z h0 w) :
    MetFree l (⟨"com/example/strict_credit/strictcredit/diameter/ResultCode", "isProtocolError", "()Z"⟩ : MethodName) (head1 (Jvm.Cond.code (⟨"com/example/strict_credit/strictcredit/diameter/ResultCode", "isProtocolError", "()Z"⟩ : MethodName) prog_39_method_6_code 1 (some .boolean) :: ws) ({ frames := 0, cells := 0, slots := 0, locals := 0 } : Room)) (fun a U => a = #[(.ref (w 1))] ∧ Z.Warmed39 U.vm ∧ U.heap = h0) (fun _ _ _ _ _ => True) (fun _ U o U' => ∃ v L, o = .returned v ∧ QP (some (.int (1 : Int32))) h0 n0 v U'.heap L ∧ FrameEnd U o U' L ({ frames := 0, cells := 0, slots := 0, locals := 0 } : Room).cells ({ frames := 0, cells := 0, slots := 0, locals := 0 } : Room).slots) := by
  refine MetFree.of_bodySF (plainFor_of_name pn1) hisR ?_
  intro p e s m args below meth c s₁ Bd hml0 hP hK
  obtain ⟨rfl, hZ, hh⟩ := hP
  have hx := Bd.exec
  have hby := Bd.bytes
  have hml : c.maxLocals = 1 := hml0
  have hown : s.vm.findClass "com/example/strict_credit/strictcredit/diameter/ResultCode" = some m.cls := findClass_of_methodNamed Bd.named
  have hnm := (name_of_methodNamed Bd.named Bd.method).1
  have X0 : Stand p l e ({ frames := 0, cells := 0, slots := 0, locals := 0 } : Room) s m #[(.ref (w 1))] below meth c s₁ [] 0 0 := Stand.of_body Bd
  have e0 : s₁.heap = h0 := by rw [← hh, Bd.state]; rfl
  have N0 := Fr.nil n0
  refine Goes.out (Goes.by (fun tz kz => castTop (ef3_R m ((w 1))) kz) ?_)
  show Goes p e below (s₁.setTop (mkF m 0 #[.val (.ref (w 1))] [])) _
  refine Goes.by (fun _ kz => XS.aloadN X0.here hx rfl (hb hby d3_0) rfl rfl kz) ?_
  obtain ⟨T26, X26, e26, st26⟩ := getF X0 hx hZ hown (host := "") (Or.inl (hw _ (List.mem_of_getElem? (i := 21) rfl))) Via.refl e0 P.2.2.2.2.2.2.2.2.2.2.2.2.2.2.2.2.2.2.2.2.2.2.2.2.2.2.2.2.2.2.2.2.2.2.2.2.2.2.2.2.2.2.2.2.2.2.2.2.2.2.2.2.2.2.2.1 (g := (mkF m 1 #[.val (.ref (w 1))] [(.ref (w 1))])) rfl rfl (hb hby d3_1)
  refine Goes.by st26 ?_
  refine Goes.by (fun _ kz => XS.sipush X26.here hx rfl (hb hby d3_4) (XS.idiv X26.here hx rfl (hb hby d3_7) rfl (by decide) kz)) ?_
  show Goes p e below (T26.setTop (mkF m 8 #[.val (.ref (w 1))] [(.int ((3001 : Int32) / (1000 : Int32)))])) _
  rw [show (((3001 : Int32) / (1000 : Int32)) : Int32) = (3 : Int32) from by decide]
  show Goes p e below (T26.setTop (mkF m 8 #[.val (.ref (w 1))] [(.int (3 : Int32))])) _
  refine Goes.by (fun _ kz => XS.iconst X26.here hx rfl (hb hby d3_8) (XS.icmpNo X26.here hx rfl (hb hby d3_9) rfl (teq (by decide : (3 : Int32) = (3 : Int32))).2 (XS.iconst X26.here hx rfl (hb hby d3_12) kz))) ?_
  show Goes p e below (T26.setTop (mkF m 13 #[.val (.ref (w 1))] [(.int (1 : Int32))])) _
  refine Goes.by (fun _ kz => XS.goto X26.here hx rfl (pc0 := 13) (pc' := 17) rfl (hb hby d3_13) (by decide) (by decide) kz) ?_
  show Goes p e below (T26.setTop (mkF m 17 #[.val (.ref (w 1))] [(.int (1 : Int32))])) _
  obtain ⟨fs, hr, hrun, hended, hW, hsame⟩ := X26.leave (v := some (.int (1 : Int32))) (fun h => by rw [Bd.returns] at h; cases h)
  exact ⟨_, _, retN X26 hx (t := .boolean) Bd.returns (by simp) (hb hby d3_17) hr, hrun, hended, _, _, rfl, ⟨rfl, N0, e26⟩, ⟨_, rfl⟩, hW, hsame.mono (by decide) (by decide)⟩
set_option maxRecDepth 65536 in
set_option maxHeartbeats 40000000 in
theorem r1_9 (l : Launch) (Z : State) (a0 : Array Value) (hw : ∀ d ∈ tables_1, d.before a0 Z = true) (ws : List Jvm.Cond) (h0 : Heap) (n0 : Nat) (Z0 : n0 ≤ h0.size) (w : Nat → Addr) (P : Pins Z h0 w) :
    MetFree l (⟨"com/example/strict_credit/strictcredit/diameter/ResultCodeIsProtocolErrorPinLaw", "pick", "(I)Lcom/example/strict_credit/strictcredit/diameter/ResultCode;"⟩ : MethodName) (head1 (Jvm.Cond.code (⟨"com/example/strict_credit/strictcredit/diameter/ResultCodeIsProtocolErrorPinLaw", "pick", "(I)Lcom/example/strict_credit/strictcredit/diameter/ResultCode;"⟩ : MethodName) method_2_code 1 (some (.object "com/example/strict_credit/strictcredit/diameter/ResultCode")) :: ws) ({ frames := 0, cells := 0, slots := 0, locals := 0 } : Room)) (fun a U => a = #[(.int (3 : Int32))] ∧ Z.Warmed39 U.vm ∧ U.heap = h0) (fun _ _ _ _ _ => True) (fun _ U o U' => ∃ v L, o = .returned v ∧ QP (some (.ref (w 2))) h0 n0 v U'.heap L ∧ FrameEnd U o U' L ({ frames := 0, cells := 0, slots := 0, locals := 0 } : Room).cells ({ frames := 0, cells := 0, slots := 0, locals := 0 } : Room).slots) := by
  refine MetFree.of_bodySF (plainFor_of_name pn0) hisR ?_
  intro p e s m args below meth c s₁ Bd hml0 hP hK
  obtain ⟨rfl, hZ, hh⟩ := hP
  have hx := Bd.exec
  have hby := Bd.bytes
  have hml : c.maxLocals = 1 := hml0
  have hown : s.vm.findClass "com/example/strict_credit/strictcredit/diameter/ResultCodeIsProtocolErrorPinLaw" = some m.cls := findClass_of_methodNamed Bd.named
  have hnm := (name_of_methodNamed Bd.named Bd.method).1
  have X0 : Stand p l e ({ frames := 0, cells := 0, slots := 0, locals := 0 } : Room) s m #[(.int (3 : Int32))] below meth c s₁ [] 0 0 := Stand.of_body Bd
  have e0 : s₁.heap = h0 := by rw [← hh, Bd.state]; rfl
  have N0 := Fr.nil n0
  refine Goes.out (Goes.by (fun tz kz => castTop (ef1_I m ((3 : Int32))) kz) ?_)
  show Goes p e below (s₁.setTop (mkF m 0 #[.val (.int (3 : Int32))] [])) _
  refine Goes.by (fun _ kz => XS.iloadN X0.here hx rfl (hb hby d1_0) rfl (XS.ifYes X0.here hx rfl (pc0 := 1) (pc' := 8) rfl (hb hby d1_1) rfl ((if0 _ _).trans (feq (by decide : ¬ ((3 : Int32) = (0 : Int32)))).2) (by decide) (by decide) (XS.iloadN X0.here hx rfl (hb hby d1_8) rfl kz))) ?_
  show Goes p e below (s₁.setTop (mkF m 9 #[.val (.int (3 : Int32))] [(.int (3 : Int32))])) _
  refine Goes.by (fun _ kz => XS.iconst X0.here hx rfl (hb hby d1_9) (XS.icmpYes X0.here hx rfl (pc0 := 10) (pc' := 17) rfl (hb hby d1_10) rfl (feq (by decide : ¬ ((3 : Int32) = (1 : Int32)))).2 (by decide) (by decide) (XS.iloadN X0.here hx rfl (hb hby d1_17) rfl kz))) ?_
  show Goes p e below (s₁.setTop (mkF m 18 #[.val (.int (3 : Int32))] [(.int (3 : Int32))])) _
  refine Goes.by (fun _ kz => XS.iconst X0.here hx rfl (hb hby d1_18) (XS.icmpYes X0.here hx rfl (pc0 := 19) (pc' := 26) rfl (hb hby d1_19) rfl (feq (by decide : ¬ ((3 : Int32) = (2 : Int32)))).2 (by decide) (by decide) (XS.iloadN X0.here hx rfl (hb hby d1_26) rfl kz))) ?_
  show Goes p e below (s₁.setTop (mkF m 27 #[.val (.int (3 : Int32))] [(.int (3 : Int32))])) _
  refine Goes.by (fun _ kz => XS.iconst X0.here hx rfl (hb hby d1_27) (XS.icmpNo X0.here hx rfl (hb hby d1_28) rfl (teq (by decide : (3 : Int32) = (3 : Int32))).2 kz)) ?_
  obtain ⟨T28, X28, e28, st28⟩ := getS2 X0 hx hZ hown (host := "") (Or.inl (hw _ (List.mem_of_getElem? (i := 10) rfl))) Via.refl e0 P.2.2.2.2.1 (g := (mkF m 31 #[.val (.int (3 : Int32))] [])) rfl (hb hby d1_31)
  refine Goes.by st28 ?_
  show Goes p e below (T28.setTop (mkF m 34 #[.val (.int (3 : Int32))] [(.ref (w 2))])) _
  obtain ⟨fs, hr, hrun, hended, hW, hsame⟩ := X28.leave (v := some (.ref (w 2))) (fun h => by rw [Bd.returns] at h; cases h)
  exact ⟨_, _, retOut X28 hx (t := (.object "com/example/strict_credit/strictcredit/diameter/ResultCode")) Bd.returns rfl (Or.inr (Or.inr (Or.inr (Or.inr ⟨rfl, rfl, rfl⟩)))) (hb hby d1_34) hr, hrun, hended, _, _, rfl, ⟨rfl, N0, e28⟩, ⟨_, rfl⟩, hW, hsame.mono (by decide) (by decide)⟩
set_option maxRecDepth 65536 in
set_option maxHeartbeats 40000000 in
theorem r2_10 (l : Launch) (Z : State) (a0 : Array Value) (hw : ∀ d ∈ tables_1, d.before a0 Z = true) (ws : List Jvm.Cond) (h0 : Heap) (n0 : Nat) (Z0 : n0 ≤ h0.size) (w : Nat → Addr) (P : Pins Z h0 w) :
    MetFree l (⟨"com/example/strict_credit/strictcredit/diameter/ResultCode", "code", "()I"⟩ : MethodName) (head1 (Jvm.Cond.code (⟨"com/example/strict_credit/strictcredit/diameter/ResultCode", "code", "()I"⟩ : MethodName) prog_39_method_4_code 1 (some .int) :: ws) ({ frames := 0, cells := 0, slots := 0, locals := 0 } : Room)) (fun a U => a = #[(.ref (w 2))] ∧ Z.Warmed39 U.vm ∧ U.heap = h0) (fun _ _ _ _ _ => True) (fun _ U o U' => ∃ v L, o = .returned v ∧ QP (some (.int (3007 : Int32))) h0 n0 v U'.heap L ∧ FrameEnd U o U' L ({ frames := 0, cells := 0, slots := 0, locals := 0 } : Room).cells ({ frames := 0, cells := 0, slots := 0, locals := 0 } : Room).slots) := by
  refine MetFree.of_bodySF (plainFor_of_name pn1) hisR ?_
  intro p e s m args below meth c s₁ Bd hml0 hP hK
  obtain ⟨rfl, hZ, hh⟩ := hP
  have hx := Bd.exec
  have hby := Bd.bytes
  have hml : c.maxLocals = 1 := hml0
  have hown : s.vm.findClass "com/example/strict_credit/strictcredit/diameter/ResultCode" = some m.cls := findClass_of_methodNamed Bd.named
  have hnm := (name_of_methodNamed Bd.named Bd.method).1
  have X0 : Stand p l e ({ frames := 0, cells := 0, slots := 0, locals := 0 } : Room) s m #[(.ref (w 2))] below meth c s₁ [] 0 0 := Stand.of_body Bd
  have e0 : s₁.heap = h0 := by rw [← hh, Bd.state]; rfl
  have N0 := Fr.nil n0
  refine Goes.out (Goes.by (fun tz kz => castTop (ef2_R m ((w 2))) kz) ?_)
  show Goes p e below (s₁.setTop (mkF m 0 #[.val (.ref (w 2))] [])) _
  refine Goes.by (fun _ kz => XS.aloadN X0.here hx rfl (hb hby d2_0) rfl rfl kz) ?_
  obtain ⟨T32, X32, e32, st32⟩ := getF X0 hx hZ hown (host := "") (Or.inl (hw _ (List.mem_of_getElem? (i := 21) rfl))) Via.refl e0 P.2.2.2.2.2.2.2.2.2.2.2.2.2.2.2.2.2.2.2.2.2.2.2.2.2.2.2.2.2.2.2.2.2.2.2.2.2.2.2.2.2.2.2.2.2.2.1 (g := (mkF m 1 #[.val (.ref (w 2))] [(.ref (w 2))])) rfl rfl (hb hby d2_1)
  refine Goes.by st32 ?_
  show Goes p e below (T32.setTop (mkF m 4 #[.val (.ref (w 2))] [(.int (3007 : Int32))])) _
  obtain ⟨fs, hr, hrun, hended, hW, hsame⟩ := X32.leave (v := some (.int (3007 : Int32))) (fun h => by rw [Bd.returns] at h; cases h)
  exact ⟨_, _, retOut X32 hx (t := .int) Bd.returns rfl (Or.inl ⟨rfl, Or.inl rfl, _, rfl⟩) (hb hby d2_4) hr, hrun, hended, _, _, rfl, ⟨rfl, N0, e32⟩, ⟨_, rfl⟩, hW, hsame.mono (by decide) (by decide)⟩
set_option maxRecDepth 65536 in
set_option maxHeartbeats 40000000 in
theorem r3_11 (l : Launch) (Z : State) (a0 : Array Value) (hw : ∀ d ∈ tables_1, d.before a0 Z = true) (ws : List Jvm.Cond) (h0 : Heap) (n0 : Nat) (Z0 : n0 ≤ h0.size) (w : Nat → Addr) (P : Pins Z h0 w) :
    MetFree l (⟨"com/example/strict_credit/strictcredit/diameter/ResultCode", "isProtocolError", "()Z"⟩ : MethodName) (head1 (Jvm.Cond.code (⟨"com/example/strict_credit/strictcredit/diameter/ResultCode", "isProtocolError", "()Z"⟩ : MethodName) prog_39_method_6_code 1 (some .boolean) :: ws) ({ frames := 0, cells := 0, slots := 0, locals := 0 } : Room)) (fun a U => a = #[(.ref (w 2))] ∧ Z.Warmed39 U.vm ∧ U.heap = h0) (fun _ _ _ _ _ => True) (fun _ U o U' => ∃ v L, o = .returned v ∧ QP (some (.int (1 : Int32))) h0 n0 v U'.heap L ∧ FrameEnd U o U' L ({ frames := 0, cells := 0, slots := 0, locals := 0 } : Room).cells ({ frames := 0, cells := 0, slots := 0, locals := 0 } : Room).slots) := by
  refine MetFree.of_bodySF (plainFor_of_name pn1) hisR ?_
  intro p e s m args below meth c s₁ Bd hml0 hP hK
  obtain ⟨rfl, hZ, hh⟩ := hP
  have hx := Bd.exec
  have hby := Bd.bytes
  have hml : c.maxLocals = 1 := hml0
  have hown : s.vm.findClass "com/example/strict_credit/strictcredit/diameter/ResultCode" = some m.cls := findClass_of_methodNamed Bd.named
  have hnm := (name_of_methodNamed Bd.named Bd.method).1
  have X0 : Stand p l e ({ frames := 0, cells := 0, slots := 0, locals := 0 } : Room) s m #[(.ref (w 2))] below meth c s₁ [] 0 0 := Stand.of_body Bd
  have e0 : s₁.heap = h0 := by rw [← hh, Bd.state]; rfl
  have N0 := Fr.nil n0
  refine Goes.out (Goes.by (fun tz kz => castTop (ef3_R m ((w 2))) kz) ?_)
  show Goes p e below (s₁.setTop (mkF m 0 #[.val (.ref (w 2))] [])) _
  refine Goes.by (fun _ kz => XS.aloadN X0.here hx rfl (hb hby d3_0) rfl rfl kz) ?_
  obtain ⟨T34, X34, e34, st34⟩ := getF X0 hx hZ hown (host := "") (Or.inl (hw _ (List.mem_of_getElem? (i := 21) rfl))) Via.refl e0 P.2.2.2.2.2.2.2.2.2.2.2.2.2.2.2.2.2.2.2.2.2.2.2.2.2.2.2.2.2.2.2.2.2.2.2.2.2.2.2.2.2.2.2.2.2.2.1 (g := (mkF m 1 #[.val (.ref (w 2))] [(.ref (w 2))])) rfl rfl (hb hby d3_1)
  refine Goes.by st34 ?_
  refine Goes.by (fun _ kz => XS.sipush X34.here hx rfl (hb hby d3_4) (XS.idiv X34.here hx rfl (hb hby d3_7) rfl (by decide) kz)) ?_
  show Goes p e below (T34.setTop (mkF m 8 #[.val (.ref (w 2))] [(.int ((3007 : Int32) / (1000 : Int32)))])) _
  rw [show (((3007 : Int32) / (1000 : Int32)) : Int32) = (3 : Int32) from by decide]
  show Goes p e below (T34.setTop (mkF m 8 #[.val (.ref (w 2))] [(.int (3 : Int32))])) _
  refine Goes.by (fun _ kz => XS.iconst X34.here hx rfl (hb hby d3_8) (XS.icmpNo X34.here hx rfl (hb hby d3_9) rfl (teq (by decide : (3 : Int32) = (3 : Int32))).2 (XS.iconst X34.here hx rfl (hb hby d3_12) kz))) ?_
  show Goes p e below (T34.setTop (mkF m 13 #[.val (.ref (w 2))] [(.int (1 : Int32))])) _
  refine Goes.by (fun _ kz => XS.goto X34.here hx rfl (pc0 := 13) (pc' := 17) rfl (hb hby d3_13) (by decide) (by decide) kz) ?_
  show Goes p e below (T34.setTop (mkF m 17 #[.val (.ref (w 2))] [(.int (1 : Int32))])) _
  obtain ⟨fs, hr, hrun, hended, hW, hsame⟩ := X34.leave (v := some (.int (1 : Int32))) (fun h => by rw [Bd.returns] at h; cases h)
  exact ⟨_, _, retN X34 hx (t := .boolean) Bd.returns (by simp) (hb hby d3_17) hr, hrun, hended, _, _, rfl, ⟨rfl, N0, e34⟩, ⟨_, rfl⟩, hW, hsame.mono (by decide) (by decide)⟩
set_option maxRecDepth 65536 in
set_option maxHeartbeats 40000000 in
theorem r1_12 (l : Launch) (Z : State) (a0 : Array Value) (hw : ∀ d ∈ tables_1, d.before a0 Z = true) (ws : List Jvm.Cond) (h0 : Heap) (n0 : Nat) (Z0 : n0 ≤ h0.size) (w : Nat → Addr) (P : Pins Z h0 w) :
    MetFree l (⟨"com/example/strict_credit/strictcredit/diameter/ResultCodeIsProtocolErrorPinLaw", "pick", "(I)Lcom/example/strict_credit/strictcredit/diameter/ResultCode;"⟩ : MethodName) (head1 (Jvm.Cond.code (⟨"com/example/strict_credit/strictcredit/diameter/ResultCodeIsProtocolErrorPinLaw", "pick", "(I)Lcom/example/strict_credit/strictcredit/diameter/ResultCode;"⟩ : MethodName) method_2_code 1 (some (.object "com/example/strict_credit/strictcredit/diameter/ResultCode")) :: ws) ({ frames := 0, cells := 0, slots := 0, locals := 0 } : Room)) (fun a U => a = #[(.int (4 : Int32))] ∧ Z.Warmed39 U.vm ∧ U.heap = h0) (fun _ _ _ _ _ => True) (fun _ U o U' => ∃ v L, o = .returned v ∧ QP (some (.ref (w 3))) h0 n0 v U'.heap L ∧ FrameEnd U o U' L ({ frames := 0, cells := 0, slots := 0, locals := 0 } : Room).cells ({ frames := 0, cells := 0, slots := 0, locals := 0 } : Room).slots) := by
  refine MetFree.of_bodySF (plainFor_of_name pn0) hisR ?_
  intro p e s m args below meth c s₁ Bd hml0 hP hK
  obtain ⟨rfl, hZ, hh⟩ := hP
  have hx := Bd.exec
  have hby := Bd.bytes
  have hml : c.maxLocals = 1 := hml0
  have hown : s.vm.findClass "com/example/strict_credit/strictcredit/diameter/ResultCodeIsProtocolErrorPinLaw" = some m.cls := findClass_of_methodNamed Bd.named
  have hnm := (name_of_methodNamed Bd.named Bd.method).1
  have X0 : Stand p l e ({ frames := 0, cells := 0, slots := 0, locals := 0 } : Room) s m #[(.int (4 : Int32))] below meth c s₁ [] 0 0 := Stand.of_body Bd
  have e0 : s₁.heap = h0 := by rw [← hh, Bd.state]; rfl
  have N0 := Fr.nil n0
  refine Goes.out (Goes.by (fun tz kz => castTop (ef1_I m ((4 : Int32))) kz) ?_)
  show Goes p e below (s₁.setTop (mkF m 0 #[.val (.int (4 : Int32))] [])) _
  refine Goes.by (fun _ kz => XS.iloadN X0.here hx rfl (hb hby d1_0) rfl (XS.ifYes X0.here hx rfl (pc0 := 1) (pc' := 8) rfl (hb hby d1_1) rfl ((if0 _ _).trans (feq (by decide : ¬ ((4 : Int32) = (0 : Int32)))).2) (by decide) (by decide) (XS.iloadN X0.here hx rfl (hb hby d1_8) rfl kz))) ?_
  show Goes p e below (s₁.setTop (mkF m 9 #[.val (.int (4 : Int32))] [(.int (4 : Int32))])) _
  refine Goes.by (fun _ kz => XS.iconst X0.here hx rfl (hb hby d1_9) (XS.icmpYes X0.here hx rfl (pc0 := 10) (pc' := 17) rfl (hb hby d1_10) rfl (feq (by decide : ¬ ((4 : Int32) = (1 : Int32)))).2 (by decide) (by decide) (XS.iloadN X0.here hx rfl (hb hby d1_17) rfl kz))) ?_
  show Goes p e below (s₁.setTop (mkF m 18 #[.val (.int (4 : Int32))] [(.int (4 : Int32))])) _
  refine Goes.by (fun _ kz => XS.iconst X0.here hx rfl (hb hby d1_18) (XS.icmpYes X0.here hx rfl (pc0 := 19) (pc' := 26) rfl (hb hby d1_19) rfl (feq (by decide : ¬ ((4 : Int32) = (2 : Int32)))).2 (by decide) (by decide) (XS.iloadN X0.here hx rfl (hb hby d1_26) rfl kz))) ?_
  show Goes p e below (s₁.setTop (mkF m 27 #[.val (.int (4 : Int32))] [(.int (4 : Int32))])) _
  refine Goes.by (fun _ kz => XS.iconst X0.here hx rfl (hb hby d1_27) (XS.icmpYes X0.here hx rfl (pc0 := 28) (pc' := 35) rfl (hb hby d1_28) rfl (feq (by decide : ¬ ((4 : Int32) = (3 : Int32)))).2 (by decide) (by decide) (XS.iloadN X0.here hx rfl (hb hby d1_35) rfl kz))) ?_
  show Goes p e below (s₁.setTop (mkF m 36 #[.val (.int (4 : Int32))] [(.int (4 : Int32))])) _
  refine Goes.by (fun _ kz => XS.iconst X0.here hx rfl (hb hby d1_36) (XS.icmpNo X0.here hx rfl (hb hby d1_37) rfl (teq (by decide : (4 : Int32) = (4 : Int32))).2 kz)) ?_
  obtain ⟨T36, X36, e36, st36⟩ := getS2 X0 hx hZ hown (host := "") (Or.inl (hw _ (List.mem_of_getElem? (i := 12) rfl))) Via.refl e0 P.2.2.2.2.2.2.1 (g := (mkF m 40 #[.val (.int (4 : Int32))] [])) rfl (hb hby d1_40)
  refine Goes.by st36 ?_
  show Goes p e below (T36.setTop (mkF m 43 #[.val (.int (4 : Int32))] [(.ref (w 3))])) _
  obtain ⟨fs, hr, hrun, hended, hW, hsame⟩ := X36.leave (v := some (.ref (w 3))) (fun h => by rw [Bd.returns] at h; cases h)
  exact ⟨_, _, retOut X36 hx (t := (.object "com/example/strict_credit/strictcredit/diameter/ResultCode")) Bd.returns rfl (Or.inr (Or.inr (Or.inr (Or.inr ⟨rfl, rfl, rfl⟩)))) (hb hby d1_43) hr, hrun, hended, _, _, rfl, ⟨rfl, N0, e36⟩, ⟨_, rfl⟩, hW, hsame.mono (by decide) (by decide)⟩
set_option maxRecDepth 65536 in
set_option maxHeartbeats 40000000 in
theorem r2_13 (l : Launch) (Z : State) (a0 : Array Value) (hw : ∀ d ∈ tables_1, d.before a0 Z = true) (ws : List Jvm.Cond) (h0 : Heap) (n0 : Nat) (Z0 : n0 ≤ h0.size) (w : Nat → Addr) (P : Pins Z h0 w) :
    MetFree l (⟨"com/example/strict_credit/strictcredit/diameter/ResultCode", "code", "()I"⟩ : MethodName) (head1 (Jvm.Cond.code (⟨"com/example/strict_credit/strictcredit/diameter/ResultCode", "code", "()I"⟩ : MethodName) prog_39_method_4_code 1 (some .int) :: ws) ({ frames := 0, cells := 0, slots := 0, locals := 0 } : Room)) (fun a U => a = #[(.ref (w 3))] ∧ Z.Warmed39 U.vm ∧ U.heap = h0) (fun _ _ _ _ _ => True) (fun _ U o U' => ∃ v L, o = .returned v ∧ QP (some (.int (3008 : Int32))) h0 n0 v U'.heap L ∧ FrameEnd U o U' L ({ frames := 0, cells := 0, slots := 0, locals := 0 } : Room).cells ({ frames := 0, cells := 0, slots := 0, locals := 0 } : Room).slots) := by
  refine MetFree.of_bodySF (plainFor_of_name pn1) hisR ?_
  intro p e s m args below meth c s₁ Bd hml0 hP hK
  obtain ⟨rfl, hZ, hh⟩ := hP
  have hx := Bd.exec
  have hby := Bd.bytes
  have hml : c.maxLocals = 1 := hml0
  have hown : s.vm.findClass "com/example/strict_credit/strictcredit/diameter/ResultCode" = some m.cls := findClass_of_methodNamed Bd.named
  have hnm := (name_of_methodNamed Bd.named Bd.method).1
  have X0 : Stand p l e ({ frames := 0, cells := 0, slots := 0, locals := 0 } : Room) s m #[(.ref (w 3))] below meth c s₁ [] 0 0 := Stand.of_body Bd
  have e0 : s₁.heap = h0 := by rw [← hh, Bd.state]; rfl
  have N0 := Fr.nil n0
  refine Goes.out (Goes.by (fun tz kz => castTop (ef2_R m ((w 3))) kz) ?_)
  show Goes p e below (s₁.setTop (mkF m 0 #[.val (.ref (w 3))] [])) _
  refine Goes.by (fun _ kz => XS.aloadN X0.here hx rfl (hb hby d2_0) rfl rfl kz) ?_
  obtain ⟨T41, X41, e41, st41⟩ := getF X0 hx hZ hown (host := "") (Or.inl (hw _ (List.mem_of_getElem? (i := 21) rfl))) Via.refl e0 P.2.2.2.2.2.2.2.2.2.2.2.2.2.2.2.2.2.2.2.2.2.2.2.2.2.2.2.2.2.2.2.2.2.2.2.2.2.2.2.2.2.2.2.2.2.2.2.2.2.2.2.2.2.2.2.2.2.2.2.2.2.2.2.2.2.2.2.2.2.2.2.2.2.1 (g := (mkF m 1 #[.val (.ref (w 3))] [(.ref (w 3))])) rfl rfl (hb hby d2_1)
  refine Goes.by st41 ?_
  show Goes p e below (T41.setTop (mkF m 4 #[.val (.ref (w 3))] [(.int (3008 : Int32))])) _
  obtain ⟨fs, hr, hrun, hended, hW, hsame⟩ := X41.leave (v := some (.int (3008 : Int32))) (fun h => by rw [Bd.returns] at h; cases h)
  exact ⟨_, _, retOut X41 hx (t := .int) Bd.returns rfl (Or.inl ⟨rfl, Or.inl rfl, _, rfl⟩) (hb hby d2_4) hr, hrun, hended, _, _, rfl, ⟨rfl, N0, e41⟩, ⟨_, rfl⟩, hW, hsame.mono (by decide) (by decide)⟩
set_option maxRecDepth 65536 in
set_option maxHeartbeats 40000000 in
theorem r3_14 (l : Launch) (Z : State) (a0 : Array Value) (hw : ∀ d ∈ tables_1, d.before a0 Z = true) (ws : List Jvm.Cond) (h0 : Heap) (n0 : Nat) (Z0 : n0 ≤ h0.size) (w : Nat → Addr) (P : Pins Z h0 w) :
    MetFree l (⟨"com/example/strict_credit/strictcredit/diameter/ResultCode", "isProtocolError", "()Z"⟩ : MethodName) (head1 (Jvm.Cond.code (⟨"com/example/strict_credit/strictcredit/diameter/ResultCode", "isProtocolError", "()Z"⟩ : MethodName) prog_39_method_6_code 1 (some .boolean) :: ws) ({ frames := 0, cells := 0, slots := 0, locals := 0 } : Room)) (fun a U => a = #[(.ref (w 3))] ∧ Z.Warmed39 U.vm ∧ U.heap = h0) (fun _ _ _ _ _ => True) (fun _ U o U' => ∃ v L, o = .returned v ∧ QP (some (.int (1 : Int32))) h0 n0 v U'.heap L ∧ FrameEnd U o U' L ({ frames := 0, cells := 0, slots := 0, locals := 0 } : Room).cells ({ frames := 0, cells := 0, slots := 0, locals := 0 } : Room).slots) := by
  refine MetFree.of_bodySF (plainFor_of_name pn1) hisR ?_
  intro p e s m args below meth c s₁ Bd hml0 hP hK
  obtain ⟨rfl, hZ, hh⟩ := hP
  have hx := Bd.exec
  have hby := Bd.bytes
  have hml : c.maxLocals = 1 := hml0
  have hown : s.vm.findClass "com/example/strict_credit/strictcredit/diameter/ResultCode" = some m.cls := findClass_of_methodNamed Bd.named
  have hnm := (name_of_methodNamed Bd.named Bd.method).1
  have X0 : Stand p l e ({ frames := 0, cells := 0, slots := 0, locals := 0 } : Room) s m #[(.ref (w 3))] below meth c s₁ [] 0 0 := Stand.of_body Bd
  have e0 : s₁.heap = h0 := by rw [← hh, Bd.state]; rfl
  have N0 := Fr.nil n0
  refine Goes.out (Goes.by (fun tz kz => castTop (ef3_R m ((w 3))) kz) ?_)
  show Goes p e below (s₁.setTop (mkF m 0 #[.val (.ref (w 3))] [])) _
  refine Goes.by (fun _ kz => XS.aloadN X0.here hx rfl (hb hby d3_0) rfl rfl kz) ?_
  obtain ⟨T43, X43, e43, st43⟩ := getF X0 hx hZ hown (host := "") (Or.inl (hw _ (List.mem_of_getElem? (i := 21) rfl))) Via.refl e0 P.2.2.2.2.2.2.2.2.2.2.2.2.2.2.2.2.2.2.2.2.2.2.2.2.2.2.2.2.2.2.2.2.2.2.2.2.2.2.2.2.2.2.2.2.2.2.2.2.2.2.2.2.2.2.2.2.2.2.2.2.2.2.2.2.2.2.2.2.2.2.2.2.2.1 (g := (mkF m 1 #[.val (.ref (w 3))] [(.ref (w 3))])) rfl rfl (hb hby d3_1)
  refine Goes.by st43 ?_
  refine Goes.by (fun _ kz => XS.sipush X43.here hx rfl (hb hby d3_4) (XS.idiv X43.here hx rfl (hb hby d3_7) rfl (by decide) kz)) ?_
  show Goes p e below (T43.setTop (mkF m 8 #[.val (.ref (w 3))] [(.int ((3008 : Int32) / (1000 : Int32)))])) _
  rw [show (((3008 : Int32) / (1000 : Int32)) : Int32) = (3 : Int32) from by decide]
  show Goes p e below (T43.setTop (mkF m 8 #[.val (.ref (w 3))] [(.int (3 : Int32))])) _
  refine Goes.by (fun _ kz => XS.iconst X43.here hx rfl (hb hby d3_8) (XS.icmpNo X43.here hx rfl (hb hby d3_9) rfl (teq (by decide : (3 : Int32) = (3 : Int32))).2 (XS.iconst X43.here hx rfl (hb hby d3_12) kz))) ?_
  show Goes p e below (T43.setTop (mkF m 13 #[.val (.ref (w 3))] [(.int (1 : Int32))])) _
  refine Goes.by (fun _ kz => XS.goto X43.here hx rfl (pc0 := 13) (pc' := 17) rfl (hb hby d3_13) (by decide) (by decide) kz) ?_
  show Goes p e below (T43.setTop (mkF m 17 #[.val (.ref (w 3))] [(.int (1 : Int32))])) _
  obtain ⟨fs, hr, hrun, hended, hW, hsame⟩ := X43.leave (v := some (.int (1 : Int32))) (fun h => by rw [Bd.returns] at h; cases h)
  exact ⟨_, _, retN X43 hx (t := .boolean) Bd.returns (by simp) (hb hby d3_17) hr, hrun, hended, _, _, rfl, ⟨rfl, N0, e43⟩, ⟨_, rfl⟩, hW, hsame.mono (by decide) (by decide)⟩
set_option maxRecDepth 65536 in
set_option maxHeartbeats 40000000 in
theorem r1_15 (l : Launch) (Z : State) (a0 : Array Value) (hw : ∀ d ∈ tables_1, d.before a0 Z = true) (ws : List Jvm.Cond) (h0 : Heap) (n0 : Nat) (Z0 : n0 ≤ h0.size) (w : Nat → Addr) (P : Pins Z h0 w) :
    MetFree l (⟨"com/example/strict_credit/strictcredit/diameter/ResultCodeIsProtocolErrorPinLaw", "pick", "(I)Lcom/example/strict_credit/strictcredit/diameter/ResultCode;"⟩ : MethodName) (head1 (Jvm.Cond.code (⟨"com/example/strict_credit/strictcredit/diameter/ResultCodeIsProtocolErrorPinLaw", "pick", "(I)Lcom/example/strict_credit/strictcredit/diameter/ResultCode;"⟩ : MethodName) method_2_code 1 (some (.object "com/example/strict_credit/strictcredit/diameter/ResultCode")) :: ws) ({ frames := 0, cells := 0, slots := 0, locals := 0 } : Room)) (fun a U => a = #[(.int (5 : Int32))] ∧ Z.Warmed39 U.vm ∧ U.heap = h0) (fun _ _ _ _ _ => True) (fun _ U o U' => ∃ v L, o = .returned v ∧ QP (some (.ref (w 4))) h0 n0 v U'.heap L ∧ FrameEnd U o U' L ({ frames := 0, cells := 0, slots := 0, locals := 0 } : Room).cells ({ frames := 0, cells := 0, slots := 0, locals := 0 } : Room).slots) := by
  refine MetFree.of_bodySF (plainFor_of_name pn0) hisR ?_
  intro p e s m args below meth c s₁ Bd hml0 hP hK
  obtain ⟨rfl, hZ, hh⟩ := hP
  have hx := Bd.exec
  have hby := Bd.bytes
  have hml : c.maxLocals = 1 := hml0
  have hown : s.vm.findClass "com/example/strict_credit/strictcredit/diameter/ResultCodeIsProtocolErrorPinLaw" = some m.cls := findClass_of_methodNamed Bd.named
  have hnm := (name_of_methodNamed Bd.named Bd.method).1
  have X0 : Stand p l e ({ frames := 0, cells := 0, slots := 0, locals := 0 } : Room) s m #[(.int (5 : Int32))] below meth c s₁ [] 0 0 := Stand.of_body Bd
  have e0 : s₁.heap = h0 := by rw [← hh, Bd.state]; rfl
  have N0 := Fr.nil n0
  refine Goes.out (Goes.by (fun tz kz => castTop (ef1_I m ((5 : Int32))) kz) ?_)
  show Goes p e below (s₁.setTop (mkF m 0 #[.val (.int (5 : Int32))] [])) _
  refine Goes.by (fun _ kz => XS.iloadN X0.here hx rfl (hb hby d1_0) rfl (XS.ifYes X0.here hx rfl (pc0 := 1) (pc' := 8) rfl (hb hby d1_1) rfl ((if0 _ _).trans (feq (by decide : ¬ ((5 : Int32) = (0 : Int32)))).2) (by decide) (by decide) (XS.iloadN X0.here hx rfl (hb hby d1_8) rfl kz))) ?_
  show Goes p e below (s₁.setTop (mkF m 9 #[.val (.int (5 : Int32))] [(.int (5 : Int32))])) _
  refine Goes.by (fun _ kz => XS.iconst X0.here hx rfl (hb hby d1_9) (XS.icmpYes X0.here hx rfl (pc0 := 10) (pc' := 17) rfl (hb hby d1_10) rfl (feq (by decide : ¬ ((5 : Int32) = (1 : Int32)))).2 (by decide) (by decide) (XS.iloadN X0.here hx rfl (hb hby d1_17) rfl kz))) ?_
  show Goes p e below (s₁.setTop (mkF m 18 #[.val (.int (5 : Int32))] [(.int (5 : Int32))])) _
  refine Goes.by (fun _ kz => XS.iconst X0.here hx rfl (hb hby d1_18) (XS.icmpYes X0.here hx rfl (pc0 := 19) (pc' := 26) rfl (hb hby d1_19) rfl (feq (by decide : ¬ ((5 : Int32) = (2 : Int32)))).2 (by decide) (by decide) (XS.iloadN X0.here hx rfl (hb hby d1_26) rfl kz))) ?_
  show Goes p e below (s₁.setTop (mkF m 27 #[.val (.int (5 : Int32))] [(.int (5 : Int32))])) _
  refine Goes.by (fun _ kz => XS.iconst X0.here hx rfl (hb hby d1_27) (XS.icmpYes X0.here hx rfl (pc0 := 28) (pc' := 35) rfl (hb hby d1_28) rfl (feq (by decide : ¬ ((5 : Int32) = (3 : Int32)))).2 (by decide) (by decide) (XS.iloadN X0.here hx rfl (hb hby d1_35) rfl kz))) ?_
  show Goes p e below (s₁.setTop (mkF m 36 #[.val (.int (5 : Int32))] [(.int (5 : Int32))])) _
  refine Goes.by (fun _ kz => XS.iconst X0.here hx rfl (hb hby d1_36) (XS.icmpYes X0.here hx rfl (pc0 := 37) (pc' := 44) rfl (hb hby d1_37) rfl (feq (by decide : ¬ ((5 : Int32) = (4 : Int32)))).2 (by decide) (by decide) (XS.iloadN X0.here hx rfl (hb hby d1_44) rfl kz))) ?_
  show Goes p e below (s₁.setTop (mkF m 45 #[.val (.int (5 : Int32))] [(.int (5 : Int32))])) _
  refine Goes.by (fun _ kz => XS.iconst X0.here hx rfl (hb hby d1_45) (XS.icmpNo X0.here hx rfl (hb hby d1_46) rfl (teq (by decide : (5 : Int32) = (5 : Int32))).2 kz)) ?_
  obtain ⟨T45, X45, e45, st45⟩ := getS2 X0 hx hZ hown (host := "") (Or.inl (hw _ (List.mem_of_getElem? (i := 14) rfl))) Via.refl e0 P.2.2.2.2.2.2.2.2.1 (g := (mkF m 49 #[.val (.int (5 : Int32))] [])) rfl (hb hby d1_49)
  refine Goes.by st45 ?_
  show Goes p e below (T45.setTop (mkF m 52 #[.val (.int (5 : Int32))] [(.ref (w 4))])) _
  obtain ⟨fs, hr, hrun, hended, hW, hsame⟩ := X45.leave (v := some (.ref (w 4))) (fun h => by rw [Bd.returns] at h; cases h)
  exact ⟨_, _, retOut X45 hx (t := (.object "com/example/strict_credit/strictcredit/diameter/ResultCode")) Bd.returns rfl (Or.inr (Or.inr (Or.inr (Or.inr ⟨rfl, rfl, rfl⟩)))) (hb hby d1_52) hr, hrun, hended, _, _, rfl, ⟨rfl, N0, e45⟩, ⟨_, rfl⟩, hW, hsame.mono (by decide) (by decide)⟩
set_option maxRecDepth 65536 in
set_option maxHeartbeats 40000000 in
theorem r2_16 (l : Launch) (Z : State) (a0 : Array Value) (hw : ∀ d ∈ tables_1, d.before a0 Z = true) (ws : List Jvm.Cond) (h0 : Heap) (n0 : Nat) (Z0 : n0 ≤ h0.size) (w : Nat → Addr) (P : Pins Z h0 w) :
    MetFree l (⟨"com/example/strict_credit/strictcredit/diameter/ResultCode", "code", "()I"⟩ : MethodName) (head1 (Jvm.Cond.code (⟨"com/example/strict_credit/strictcredit/diameter/ResultCode", "code", "()I"⟩ : MethodName) prog_39_method_4_code 1 (some .int) :: ws) ({ frames := 0, cells := 0, slots := 0, locals := 0 } : Room)) (fun a U => a = #[(.ref (w 4))] ∧ Z.Warmed39 U.vm ∧ U.heap = h0) (fun _ _ _ _ _ => True) (fun _ U o U' => ∃ v L, o = .returned v ∧ QP (some (.int (3010 : Int32))) h0 n0 v U'.heap L ∧ FrameEnd U o U' L ({ frames := 0, cells := 0, slots := 0, locals := 0 } : Room).cells ({ frames := 0, cells := 0, slots := 0, locals := 0 } : Room).slots) := by
  refine MetFree.of_bodySF (plainFor_of_name pn1) hisR ?_
  intro p e s m args below meth c s₁ Bd hml0 hP hK
  obtain ⟨rfl, hZ, hh⟩ := hP
  have hx := Bd.exec
  have hby := Bd.bytes
  have hml : c.maxLocals = 1 := hml0
  have hown : s.vm.findClass "com/example/strict_credit/strictcredit/diameter/ResultCode" = some m.cls := findClass_of_methodNamed Bd.named
  have hnm := (name_of_methodNamed Bd.named Bd.method).1
  have X0 : Stand p l e ({ frames := 0, cells := 0, slots := 0, locals := 0 } : Room) s m #[(.ref (w 4))] below meth c s₁ [] 0 0 := Stand.of_body Bd
  have e0 : s₁.heap = h0 := by rw [← hh, Bd.state]; rfl
  have N0 := Fr.nil n0
  refine Goes.out (Goes.by (fun tz kz => castTop (ef2_R m ((w 4))) kz) ?_)
  show Goes p e below (s₁.setTop (mkF m 0 #[.val (.ref (w 4))] [])) _
  refine Goes.by (fun _ kz => XS.aloadN X0.here hx rfl (hb hby d2_0) rfl rfl kz) ?_
  obtain ⟨T51, X51, e51, st51⟩ := getF X0 hx hZ hown (host := "") (Or.inl (hw _ (List.mem_of_getElem? (i := 21) rfl))) Via.refl e0 P.2.2.2.2.2.2.2.2.2.2.2.2.2.2.2.2.2.2.2.2.2.2.2.2.2.2.2.2.2.2.2.2.2.2.2.2.2.2.2.2.2.2.2.2.2.2.2.2.2.2.2.2.2.2.2.2.2.2.2.2.2.2.2.2.2.2.2.2.2.2.2.2.1 (g := (mkF m 1 #[.val (.ref (w 4))] [(.ref (w 4))])) rfl rfl (hb hby d2_1)
  refine Goes.by st51 ?_
  show Goes p e below (T51.setTop (mkF m 4 #[.val (.ref (w 4))] [(.int (3010 : Int32))])) _
  obtain ⟨fs, hr, hrun, hended, hW, hsame⟩ := X51.leave (v := some (.int (3010 : Int32))) (fun h => by rw [Bd.returns] at h; cases h)
  exact ⟨_, _, retOut X51 hx (t := .int) Bd.returns rfl (Or.inl ⟨rfl, Or.inl rfl, _, rfl⟩) (hb hby d2_4) hr, hrun, hended, _, _, rfl, ⟨rfl, N0, e51⟩, ⟨_, rfl⟩, hW, hsame.mono (by decide) (by decide)⟩
set_option maxRecDepth 65536 in
set_option maxHeartbeats 40000000 in
theorem r3_17 (l : Launch) (Z : State) (a0 : Array Value) (hw : ∀ d ∈ tables_1, d.before a0 Z = true) (ws : List Jvm.Cond) (h0 : Heap) (n0 : Nat) (Z0 : n0 ≤ h0.size) (w : Nat → Addr) (P : Pins Z h0 w) :
    MetFree l (⟨"com/example/strict_credit/strictcredit/diameter/ResultCode", "isProtocolError", "()Z"⟩ : MethodName) (head1 (Jvm.Cond.code (⟨"com/example/strict_credit/strictcredit/diameter/ResultCode", "isProtocolError", "()Z"⟩ : MethodName) prog_39_method_6_code 1 (some .boolean) :: ws) ({ frames := 0, cells := 0, slots := 0, locals := 0 } : Room)) (fun a U => a = #[(.ref (w 4))] ∧ Z.Warmed39 U.vm ∧ U.heap = h0) (fun _ _ _ _ _ => True) (fun _ U o U' => ∃ v L, o = .returned v ∧ QP (some (.int (1 : Int32))) h0 n0 v U'.heap L ∧ FrameEnd U o U' L ({ frames := 0, cells := 0, slots := 0, locals := 0 } : Room).cells ({ frames := 0, cells := 0, slots := 0, locals := 0 } : Room).slots) := by
  refine MetFree.of_bodySF (plainFor_of_name pn1) hisR ?_
  intro p e s m args below meth c s₁ Bd hml0 hP hK
  obtain ⟨rfl, hZ, hh⟩ := hP
  have hx := Bd.exec
  have hby := Bd.bytes
  have hml : c.maxLocals = 1 := hml0
  have hown : s.vm.findClass "com/example/strict_credit/strictcredit/diameter/ResultCode" = some m.cls := findClass_of_methodNamed Bd.named
  have hnm := (name_of_methodNamed Bd.named Bd.method).1
  have X0 : Stand p l e ({ frames := 0, cells := 0, slots := 0, locals := 0 } : Room) s m #[(.ref (w 4))] below meth c s₁ [] 0 0 := Stand.of_body Bd
  have e0 : s₁.heap = h0 := by rw [← hh, Bd.state]; rfl
  have N0 := Fr.nil n0
  refine Goes.out (Goes.by (fun tz kz => castTop (ef3_R m ((w 4))) kz) ?_)
  show Goes p e below (s₁.setTop (mkF m 0 #[.val (.ref (w 4))] [])) _
  refine Goes.by (fun _ kz => XS.aloadN X0.here hx rfl (hb hby d3_0) rfl rfl kz) ?_
  obtain ⟨T53, X53, e53, st53⟩ := getF X0 hx hZ hown (host := "") (Or.inl (hw _ (List.mem_of_getElem? (i := 21) rfl))) Via.refl e0 P.2.2.2.2.2.2.2.2.2.2.2.2.2.2.2.2.2.2.2.2.2.2.2.2.2.2.2.2.2.2.2.2.2.2.2.2.2.2.2.2.2.2.2.2.2.2.2.2.2.2.2.2.2.2.2.2.2.2.2.2.2.2.2.2.2.2.2.2.2.2.2.2.1 (g := (mkF m 1 #[.val (.ref (w 4))] [(.ref (w 4))])) rfl rfl (hb hby d3_1)
  refine Goes.by st53 ?_
  refine Goes.by (fun _ kz => XS.sipush X53.here hx rfl (hb hby d3_4) (XS.idiv X53.here hx rfl (hb hby d3_7) rfl (by decide) kz)) ?_
  show Goes p e below (T53.setTop (mkF m 8 #[.val (.ref (w 4))] [(.int ((3010 : Int32) / (1000 : Int32)))])) _
  rw [show (((3010 : Int32) / (1000 : Int32)) : Int32) = (3 : Int32) from by decide]
  show Goes p e below (T53.setTop (mkF m 8 #[.val (.ref (w 4))] [(.int (3 : Int32))])) _
  refine Goes.by (fun _ kz => XS.iconst X53.here hx rfl (hb hby d3_8) (XS.icmpNo X53.here hx rfl (hb hby d3_9) rfl (teq (by decide : (3 : Int32) = (3 : Int32))).2 (XS.iconst X53.here hx rfl (hb hby d3_12) kz))) ?_
  show Goes p e below (T53.setTop (mkF m 13 #[.val (.ref (w 4))] [(.int (1 : Int32))])) _
  refine Goes.by (fun _ kz => XS.goto X53.here hx rfl (pc0 := 13) (pc' := 17) rfl (hb hby d3_13) (by decide) (by decide) kz) ?_
  show Goes p e below (T53.setTop (mkF m 17 #[.val (.ref (w 4))] [(.int (1 : Int32))])) _
  obtain ⟨fs, hr, hrun, hended, hW, hsame⟩ := X53.leave (v := some (.int (1 : Int32))) (fun h => by rw [Bd.returns] at h; cases h)
  exact ⟨_, _, retN X53 hx (t := .boolean) Bd.returns (by simp) (hb hby d3_17) hr, hrun, hended, _, _, rfl, ⟨rfl, N0, e53⟩, ⟨_, rfl⟩, hW, hsame.mono (by decide) (by decide)⟩
set_option maxRecDepth 65536 in
set_option maxHeartbeats 40000000 in
theorem r1_18 (l : Launch) (Z : State) (a0 : Array Value) (hw : ∀ d ∈ tables_1, d.before a0 Z = true) (ws : List Jvm.Cond) (h0 : Heap) (n0 : Nat) (Z0 : n0 ≤ h0.size) (w : Nat → Addr) (P : Pins Z h0 w) :
    MetFree l (⟨"com/example/strict_credit/strictcredit/diameter/ResultCodeIsProtocolErrorPinLaw", "pick", "(I)Lcom/example/strict_credit/strictcredit/diameter/ResultCode;"⟩ : MethodName) (head1 (Jvm.Cond.code (⟨"com/example/strict_credit/strictcredit/diameter/ResultCodeIsProtocolErrorPinLaw", "pick", "(I)Lcom/example/strict_credit/strictcredit/diameter/ResultCode;"⟩ : MethodName) method_2_code 1 (some (.object "com/example/strict_credit/strictcredit/diameter/ResultCode")) :: ws) ({ frames := 0, cells := 0, slots := 0, locals := 0 } : Room)) (fun a U => a = #[(.int (6 : Int32))] ∧ Z.Warmed39 U.vm ∧ U.heap = h0) (fun _ _ _ _ _ => True) (fun _ U o U' => ∃ v L, o = .returned v ∧ QP (some (.ref (w 13))) h0 n0 v U'.heap L ∧ FrameEnd U o U' L ({ frames := 0, cells := 0, slots := 0, locals := 0 } : Room).cells ({ frames := 0, cells := 0, slots := 0, locals := 0 } : Room).slots) := by
  refine MetFree.of_bodySF (plainFor_of_name pn0) hisR ?_
  intro p e s m args below meth c s₁ Bd hml0 hP hK
  obtain ⟨rfl, hZ, hh⟩ := hP
  have hx := Bd.exec
  have hby := Bd.bytes
  have hml : c.maxLocals = 1 := hml0
  have hown : s.vm.findClass "com/example/strict_credit/strictcredit/diameter/ResultCodeIsProtocolErrorPinLaw" = some m.cls := findClass_of_methodNamed Bd.named
  have hnm := (name_of_methodNamed Bd.named Bd.method).1
  have X0 : Stand p l e ({ frames := 0, cells := 0, slots := 0, locals := 0 } : Room) s m #[(.int (6 : Int32))] below meth c s₁ [] 0 0 := Stand.of_body Bd
  have e0 : s₁.heap = h0 := by rw [← hh, Bd.state]; rfl
  have N0 := Fr.nil n0
  refine Goes.out (Goes.by (fun tz kz => castTop (ef1_I m ((6 : Int32))) kz) ?_)
  show Goes p e below (s₁.setTop (mkF m 0 #[.val (.int (6 : Int32))] [])) _
  refine Goes.by (fun _ kz => XS.iloadN X0.here hx rfl (hb hby d1_0) rfl (XS.ifYes X0.here hx rfl (pc0 := 1) (pc' := 8) rfl (hb hby d1_1) rfl ((if0 _ _).trans (feq (by decide : ¬ ((6 : Int32) = (0 : Int32)))).2) (by decide) (by decide) (XS.iloadN X0.here hx rfl (hb hby d1_8) rfl kz))) ?_
  show Goes p e below (s₁.setTop (mkF m 9 #[.val (.int (6 : Int32))] [(.int (6 : Int32))])) _
  refine Goes.by (fun _ kz => XS.iconst X0.here hx rfl (hb hby d1_9) (XS.icmpYes X0.here hx rfl (pc0 := 10) (pc' := 17) rfl (hb hby d1_10) rfl (feq (by decide : ¬ ((6 : Int32) = (1 : Int32)))).2 (by decide) (by decide) (XS.iloadN X0.here hx rfl (hb hby d1_17) rfl kz))) ?_
  show Goes p e below (s₁.setTop (mkF m 18 #[.val (.int (6 : Int32))] [(.int (6 : Int32))])) _
  refine Goes.by (fun _ kz => XS.iconst X0.here hx rfl (hb hby d1_18) (XS.icmpYes X0.here hx rfl (pc0 := 19) (pc' := 26) rfl (hb hby d1_19) rfl (feq (by decide : ¬ ((6 : Int32) = (2 : Int32)))).2 (by decide) (by decide) (XS.iloadN X0.here hx rfl (hb hby d1_26) rfl kz))) ?_
  show Goes p e below (s₁.setTop (mkF m 27 #[.val (.int (6 : Int32))] [(.int (6 : Int32))])) _
  refine Goes.by (fun _ kz => XS.iconst X0.here hx rfl (hb hby d1_27) (XS.icmpYes X0.here hx rfl (pc0 := 28) (pc' := 35) rfl (hb hby d1_28) rfl (feq (by decide : ¬ ((6 : Int32) = (3 : Int32)))).2 (by decide) (by decide) (XS.iloadN X0.here hx rfl (hb hby d1_35) rfl kz))) ?_
  show Goes p e below (s₁.setTop (mkF m 36 #[.val (.int (6 : Int32))] [(.int (6 : Int32))])) _
  refine Goes.by (fun _ kz => XS.iconst X0.here hx rfl (hb hby d1_36) (XS.icmpYes X0.here hx rfl (pc0 := 37) (pc' := 44) rfl (hb hby d1_37) rfl (feq (by decide : ¬ ((6 : Int32) = (4 : Int32)))).2 (by decide) (by decide) (XS.iloadN X0.here hx rfl (hb hby d1_44) rfl kz))) ?_
  show Goes p e below (s₁.setTop (mkF m 45 #[.val (.int (6 : Int32))] [(.int (6 : Int32))])) _
  refine Goes.by (fun _ kz => XS.iconst X0.here hx rfl (hb hby d1_45) (XS.icmpYes X0.here hx rfl (pc0 := 46) (pc' := 53) rfl (hb hby d1_46) rfl (feq (by decide : ¬ ((6 : Int32) = (5 : Int32)))).2 (by decide) (by decide) (XS.iloadN X0.here hx rfl (hb hby d1_53) rfl kz))) ?_
  show Goes p e below (s₁.setTop (mkF m 54 #[.val (.int (6 : Int32))] [(.int (6 : Int32))])) _
  refine Goes.by (fun _ kz => XS.bipush X0.here hx rfl (hb hby d1_54) (XS.icmpNo X0.here hx rfl (hb hby d1_56) rfl (teq (by decide : (6 : Int32) = (6 : Int32))).2 kz)) ?_
  obtain ⟨T55, X55, e55, st55⟩ := getS2 X0 hx hZ hown (host := "") (Or.inl (hw _ (List.mem_of_getElem? (i := 44) rfl))) Via.refl e0 P.2.2.2.2.2.2.2.2.2.2.2.2.2.2.2.2.2.2.2.2.2.2.2.2.2.2.1 (g := (mkF m 59 #[.val (.int (6 : Int32))] [])) rfl (hb hby d1_59)
  refine Goes.by st55 ?_
  show Goes p e below (T55.setTop (mkF m 62 #[.val (.int (6 : Int32))] [(.ref (w 13))])) _
  obtain ⟨fs, hr, hrun, hended, hW, hsame⟩ := X55.leave (v := some (.ref (w 13))) (fun h => by rw [Bd.returns] at h; cases h)
  exact ⟨_, _, retOut X55 hx (t := (.object "com/example/strict_credit/strictcredit/diameter/ResultCode")) Bd.returns rfl (Or.inr (Or.inr (Or.inr (Or.inr ⟨rfl, rfl, rfl⟩)))) (hb hby d1_62) hr, hrun, hended, _, _, rfl, ⟨rfl, N0, e55⟩, ⟨_, rfl⟩, hW, hsame.mono (by decide) (by decide)⟩
set_option maxRecDepth 65536 in
set_option maxHeartbeats 40000000 in
theorem r2_19 (l : Launch) (Z : State) (a0 : Array Value) (hw : ∀ d ∈ tables_1, d.before a0 Z = true) (ws : List Jvm.Cond) (h0 : Heap) (n0 : Nat) (Z0 : n0 ≤ h0.size) (w : Nat → Addr) (P : Pins Z h0 w) :
    MetFree l (⟨"com/example/strict_credit/strictcredit/diameter/ResultCode", "code", "()I"⟩ : MethodName) (head1 (Jvm.Cond.code (⟨"com/example/strict_credit/strictcredit/diameter/ResultCode", "code", "()I"⟩ : MethodName) prog_39_method_4_code 1 (some .int) :: ws) ({ frames := 0, cells := 0, slots := 0, locals := 0 } : Room)) (fun a U => a = #[(.ref (w 13))] ∧ Z.Warmed39 U.vm ∧ U.heap = h0) (fun _ _ _ _ _ => True) (fun _ U o U' => ∃ v L, o = .returned v ∧ QP (some (.int (4010 : Int32))) h0 n0 v U'.heap L ∧ FrameEnd U o U' L ({ frames := 0, cells := 0, slots := 0, locals := 0 } : Room).cells ({ frames := 0, cells := 0, slots := 0, locals := 0 } : Room).slots) := by
  refine MetFree.of_bodySF (plainFor_of_name pn1) hisR ?_
  intro p e s m args below meth c s₁ Bd hml0 hP hK
  obtain ⟨rfl, hZ, hh⟩ := hP
  have hx := Bd.exec
  have hby := Bd.bytes
  have hml : c.maxLocals = 1 := hml0
  have hown : s.vm.findClass "com/example/strict_credit/strictcredit/diameter/ResultCode" = some m.cls := findClass_of_methodNamed Bd.named
  have hnm := (name_of_methodNamed Bd.named Bd.method).1
  have X0 : Stand p l e ({ frames := 0, cells := 0, slots := 0, locals := 0 } : Room) s m #[(.ref (w 13))] below meth c s₁ [] 0 0 := Stand.of_body Bd
  have e0 : s₁.heap = h0 := by rw [← hh, Bd.state]; rfl
  have N0 := Fr.nil n0
  refine Goes.out (Goes.by (fun tz kz => castTop (ef2_R m ((w 13))) kz) ?_)
  show Goes p e below (s₁.setTop (mkF m 0 #[.val (.ref (w 13))] [])) _
  refine Goes.by (fun _ kz => XS.aloadN X0.here hx rfl (hb hby d2_0) rfl rfl kz) ?_
  obtain ⟨T61, X61, e61, st61⟩ := getF X0 hx hZ hown (host := "") (Or.inl (hw _ (List.mem_of_getElem? (i := 21) rfl))) Via.refl e0 P.2.2.2.2.2.2.2.2.2.2.2.2.2.2.2.2.2.2.2.2.2.2.2.2.2.2.2.2.2.2.2.2.2.2.2.2.2.2.2.2.2.2.2.2.2.2.2.2.2.2.2.2.2.2.2.2.2.2.2.2.2.2.2.2.2.1 (g := (mkF m 1 #[.val (.ref (w 13))] [(.ref (w 13))])) rfl rfl (hb hby d2_1)
  refine Goes.by st61 ?_
  show Goes p e below (T61.setTop (mkF m 4 #[.val (.ref (w 13))] [(.int (4010 : Int32))])) _
  obtain ⟨fs, hr, hrun, hended, hW, hsame⟩ := X61.leave (v := some (.int (4010 : Int32))) (fun h => by rw [Bd.returns] at h; cases h)
  exact ⟨_, _, retOut X61 hx (t := .int) Bd.returns rfl (Or.inl ⟨rfl, Or.inl rfl, _, rfl⟩) (hb hby d2_4) hr, hrun, hended, _, _, rfl, ⟨rfl, N0, e61⟩, ⟨_, rfl⟩, hW, hsame.mono (by decide) (by decide)⟩
set_option maxRecDepth 65536 in
set_option maxHeartbeats 40000000 in
theorem r3_20 (l : Launch) (Z : State) (a0 : Array Value) (hw : ∀ d ∈ tables_1, d.before a0 Z = true) (ws : List Jvm.Cond) (h0 : Heap) (n0 : Nat) (Z0 : n0 ≤ h0.size) (w : Nat → Addr) (P : Pins Z h0 w) :
    MetFree l (⟨"com/example/strict_credit/strictcredit/diameter/ResultCode", "isProtocolError", "()Z"⟩ : MethodName) (head1 (Jvm.Cond.code (⟨"com/example/strict_credit/strictcredit/diameter/ResultCode", "isProtocolError", "()Z"⟩ : MethodName) prog_39_method_6_code 1 (some .boolean) :: ws) ({ frames := 0, cells := 0, slots := 0, locals := 0 } : Room)) (fun a U => a = #[(.ref (w 13))] ∧ Z.Warmed39 U.vm ∧ U.heap = h0) (fun _ _ _ _ _ => True) (fun _ U o U' => ∃ v L, o = .returned v ∧ QP (some (.int (0 : Int32))) h0 n0 v U'.heap L ∧ FrameEnd U o U' L ({ frames := 0, cells := 0, slots := 0, locals := 0 } : Room).cells ({ frames := 0, cells := 0, slots := 0, locals := 0 } : Room).slots) := by
  refine MetFree.of_bodySF (plainFor_of_name pn1) hisR ?_
  intro p e s m args below meth c s₁ Bd hml0 hP hK
  obtain ⟨rfl, hZ, hh⟩ := hP
  have hx := Bd.exec
  have hby := Bd.bytes
  have hml : c.maxLocals = 1 := hml0
  have hown : s.vm.findClass "com/example/strict_credit/strictcredit/diameter/ResultCode" = some m.cls := findClass_of_methodNamed Bd.named
  have hnm := (name_of_methodNamed Bd.named Bd.method).1
  have X0 : Stand p l e ({ frames := 0, cells := 0, slots := 0, locals := 0 } : Room) s m #[(.ref (w 13))] below meth c s₁ [] 0 0 := Stand.of_body Bd
  have e0 : s₁.heap = h0 := by rw [← hh, Bd.state]; rfl
  have N0 := Fr.nil n0
  refine Goes.out (Goes.by (fun tz kz => castTop (ef3_R m ((w 13))) kz) ?_)
  show Goes p e below (s₁.setTop (mkF m 0 #[.val (.ref (w 13))] [])) _
  refine Goes.by (fun _ kz => XS.aloadN X0.here hx rfl (hb hby d3_0) rfl rfl kz) ?_
  obtain ⟨T63, X63, e63, st63⟩ := getF X0 hx hZ hown (host := "") (Or.inl (hw _ (List.mem_of_getElem? (i := 21) rfl))) Via.refl e0 P.2.2.2.2.2.2.2.2.2.2.2.2.2.2.2.2.2.2.2.2.2.2.2.2.2.2.2.2.2.2.2.2.2.2.2.2.2.2.2.2.2.2.2.2.2.2.2.2.2.2.2.2.2.2.2.2.2.2.2.2.2.2.2.2.2.1 (g := (mkF m 1 #[.val (.ref (w 13))] [(.ref (w 13))])) rfl rfl (hb hby d3_1)
  refine Goes.by st63 ?_
  refine Goes.by (fun _ kz => XS.sipush X63.here hx rfl (hb hby d3_4) (XS.idiv X63.here hx rfl (hb hby d3_7) rfl (by decide) kz)) ?_
  show Goes p e below (T63.setTop (mkF m 8 #[.val (.ref (w 13))] [(.int ((4010 : Int32) / (1000 : Int32)))])) _
  rw [show (((4010 : Int32) / (1000 : Int32)) : Int32) = (4 : Int32) from by decide]
  show Goes p e below (T63.setTop (mkF m 8 #[.val (.ref (w 13))] [(.int (4 : Int32))])) _
  refine Goes.by (fun _ kz => XS.iconst X63.here hx rfl (hb hby d3_8) (XS.icmpYes X63.here hx rfl (pc0 := 9) (pc' := 16) rfl (hb hby d3_9) rfl (feq (by decide : ¬ ((4 : Int32) = (3 : Int32)))).2 (by decide) (by decide) (XS.iconst X63.here hx rfl (hb hby d3_16) kz))) ?_
  show Goes p e below (T63.setTop (mkF m 17 #[.val (.ref (w 13))] [(.int (0 : Int32))])) _
  obtain ⟨fs, hr, hrun, hended, hW, hsame⟩ := X63.leave (v := some (.int (0 : Int32))) (fun h => by rw [Bd.returns] at h; cases h)
  exact ⟨_, _, retN X63 hx (t := .boolean) Bd.returns (by simp) (hb hby d3_17) hr, hrun, hended, _, _, rfl, ⟨rfl, N0, e63⟩, ⟨_, rfl⟩, hW, hsame.mono (by decide) (by decide)⟩
set_option maxRecDepth 65536 in
set_option maxHeartbeats 40000000 in
theorem r1_21 (l : Launch) (Z : State) (a0 : Array Value) (hw : ∀ d ∈ tables_1, d.before a0 Z = true) (ws : List Jvm.Cond) (h0 : Heap) (n0 : Nat) (Z0 : n0 ≤ h0.size) (w : Nat → Addr) (P : Pins Z h0 w) :
    MetFree l (⟨"com/example/strict_credit/strictcredit/diameter/ResultCodeIsProtocolErrorPinLaw", "pick", "(I)Lcom/example/strict_credit/strictcredit/diameter/ResultCode;"⟩ : MethodName) (head1 (Jvm.Cond.code (⟨"com/example/strict_credit/strictcredit/diameter/ResultCodeIsProtocolErrorPinLaw", "pick", "(I)Lcom/example/strict_credit/strictcredit/diameter/ResultCode;"⟩ : MethodName) method_2_code 1 (some (.object "com/example/strict_credit/strictcredit/diameter/ResultCode")) :: ws) ({ frames := 0, cells := 0, slots := 0, locals := 0 } : Room)) (fun a U => a = #[(.int (7 : Int32))] ∧ Z.Warmed39 U.vm ∧ U.heap = h0) (fun _ _ _ _ _ => True) (fun _ U o U' => ∃ v L, o = .returned v ∧ QP (some (.ref (w 8))) h0 n0 v U'.heap L ∧ FrameEnd U o U' L ({ frames := 0, cells := 0, slots := 0, locals := 0 } : Room).cells ({ frames := 0, cells := 0, slots := 0, locals := 0 } : Room).slots) := by
  refine MetFree.of_bodySF (plainFor_of_name pn0) hisR ?_
  intro p e s m args below meth c s₁ Bd hml0 hP hK
  obtain ⟨rfl, hZ, hh⟩ := hP
  have hx := Bd.exec
  have hby := Bd.bytes
  have hml : c.maxLocals = 1 := hml0
  have hown : s.vm.findClass "com/example/strict_credit/strictcredit/diameter/ResultCodeIsProtocolErrorPinLaw" = some m.cls := findClass_of_methodNamed Bd.named
  have hnm := (name_of_methodNamed Bd.named Bd.method).1
  have X0 : Stand p l e ({ frames := 0, cells := 0, slots := 0, locals := 0 } : Room) s m #[(.int (7 : Int32))] below meth c s₁ [] 0 0 := Stand.of_body Bd
  have e0 : s₁.heap = h0 := by rw [← hh, Bd.state]; rfl
  have N0 := Fr.nil n0
  refine Goes.out (Goes.by (fun tz kz => castTop (ef1_I m ((7 : Int32))) kz) ?_)
  show Goes p e below (s₁.setTop (mkF m 0 #[.val (.int (7 : Int32))] [])) _
  refine Goes.by (fun _ kz => XS.iloadN X0.here hx rfl (hb hby d1_0) rfl (XS.ifYes X0.here hx rfl (pc0 := 1) (pc' := 8) rfl (hb hby d1_1) rfl ((if0 _ _).trans (feq (by decide : ¬ ((7 : Int32) = (0 : Int32)))).2) (by decide) (by decide) (XS.iloadN X0.here hx rfl (hb hby d1_8) rfl kz))) ?_
  show Goes p e below (s₁.setTop (mkF m 9 #[.val (.int (7 : Int32))] [(.int (7 : Int32))])) _
  refine Goes.by (fun _ kz => XS.iconst X0.here hx rfl (hb hby d1_9) (XS.icmpYes X0.here hx rfl (pc0 := 10) (pc' := 17) rfl (hb hby d1_10) rfl (feq (by decide : ¬ ((7 : Int32) = (1 : Int32)))).2 (by decide) (by decide) (XS.iloadN X0.here hx rfl (hb hby d1_17) rfl kz))) ?_
  show Goes p e below (s₁.setTop (mkF m 18 #[.val (.int (7 : Int32))] [(.int (7 : Int32))])) _
  refine Goes.by (fun _ kz => XS.iconst X0.here hx rfl (hb hby d1_18) (XS.icmpYes X0.here hx rfl (pc0 := 19) (pc' := 26) rfl (hb hby d1_19) rfl (feq (by decide : ¬ ((7 : Int32) = (2 : Int32)))).2 (by decide) (by decide) (XS.iloadN X0.here hx rfl (hb hby d1_26) rfl kz))) ?_
  show Goes p e below (s₁.setTop (mkF m 27 #[.val (.int (7 : Int32))] [(.int (7 : Int32))])) _
  refine Goes.by (fun _ kz => XS.iconst X0.here hx rfl (hb hby d1_27) (XS.icmpYes X0.here hx rfl (pc0 := 28) (pc' := 35) rfl (hb hby d1_28) rfl (feq (by decide : ¬ ((7 : Int32) = (3 : Int32)))).2 (by decide) (by decide) (XS.iloadN X0.here hx rfl (hb hby d1_35) rfl kz))) ?_
  show Goes p e below (s₁.setTop (mkF m 36 #[.val (.int (7 : Int32))] [(.int (7 : Int32))])) _
  refine Goes.by (fun _ kz => XS.iconst X0.here hx rfl (hb hby d1_36) (XS.icmpYes X0.here hx rfl (pc0 := 37) (pc' := 44) rfl (hb hby d1_37) rfl (feq (by decide : ¬ ((7 : Int32) = (4 : Int32)))).2 (by decide) (by decide) (XS.iloadN X0.here hx rfl (hb hby d1_44) rfl kz))) ?_
  show Goes p e below (s₁.setTop (mkF m 45 #[.val (.int (7 : Int32))] [(.int (7 : Int32))])) _
  refine Goes.by (fun _ kz => XS.iconst X0.here hx rfl (hb hby d1_45) (XS.icmpYes X0.here hx rfl (pc0 := 46) (pc' := 53) rfl (hb hby d1_46) rfl (feq (by decide : ¬ ((7 : Int32) = (5 : Int32)))).2 (by decide) (by decide) (XS.iloadN X0.here hx rfl (hb hby d1_53) rfl kz))) ?_
  show Goes p e below (s₁.setTop (mkF m 54 #[.val (.int (7 : Int32))] [(.int (7 : Int32))])) _
  refine Goes.by (fun _ kz => XS.bipush X0.here hx rfl (hb hby d1_54) (XS.icmpYes X0.here hx rfl (pc0 := 56) (pc' := 63) rfl (hb hby d1_56) rfl (feq (by decide : ¬ ((7 : Int32) = (6 : Int32)))).2 (by decide) (by decide) (XS.iloadN X0.here hx rfl (hb hby d1_63) rfl kz))) ?_
  show Goes p e below (s₁.setTop (mkF m 64 #[.val (.int (7 : Int32))] [(.int (7 : Int32))])) _
  refine Goes.by (fun _ kz => XS.bipush X0.here hx rfl (hb hby d1_64) (XS.icmpNo X0.here hx rfl (hb hby d1_66) rfl (teq (by decide : (7 : Int32) = (7 : Int32))).2 kz)) ?_
  obtain ⟨T65, X65, e65, st65⟩ := getS2 X0 hx hZ hown (host := "") (Or.inl (hw _ (List.mem_of_getElem? (i := 34) rfl))) Via.refl e0 P.2.2.2.2.2.2.2.2.2.2.2.2.2.2.2.2.1 (g := (mkF m 69 #[.val (.int (7 : Int32))] [])) rfl (hb hby d1_69)
  refine Goes.by st65 ?_
  show Goes p e below (T65.setTop (mkF m 72 #[.val (.int (7 : Int32))] [(.ref (w 8))])) _
  obtain ⟨fs, hr, hrun, hended, hW, hsame⟩ := X65.leave (v := some (.ref (w 8))) (fun h => by rw [Bd.returns] at h; cases h)
  exact ⟨_, _, retOut X65 hx (t := (.object "com/example/strict_credit/strictcredit/diameter/ResultCode")) Bd.returns rfl (Or.inr (Or.inr (Or.inr (Or.inr ⟨rfl, rfl, rfl⟩)))) (hb hby d1_72) hr, hrun, hended, _, _, rfl, ⟨rfl, N0, e65⟩, ⟨_, rfl⟩, hW, hsame.mono (by decide) (by decide)⟩
set_option maxRecDepth 65536 in
set_option maxHeartbeats 40000000 in
theorem r2_22 (l : Launch) (Z : State) (a0 : Array Value) (hw : ∀ d ∈ tables_1, d.before a0 Z = true) (ws : List Jvm.Cond) (h0 : Heap) (n0 : Nat) (Z0 : n0 ≤ h0.size) (w : Nat → Addr) (P : Pins Z h0 w) :
    MetFree l (⟨"com/example/strict_credit/strictcredit/diameter/ResultCode", "code", "()I"⟩ : MethodName) (head1 (Jvm.Cond.code (⟨"com/example/strict_credit/strictcredit/diameter/ResultCode", "code", "()I"⟩ : MethodName) prog_39_method_4_code 1 (some .int) :: ws) ({ frames := 0, cells := 0, slots := 0, locals := 0 } : Room)) (fun a U => a = #[(.ref (w 8))] ∧ Z.Warmed39 U.vm ∧ U.heap = h0) (fun _ _ _ _ _ => True) (fun _ U o U' => ∃ v L, o = .returned v ∧ QP (some (.int (4012 : Int32))) h0 n0 v U'.heap L ∧ FrameEnd U o U' L ({ frames := 0, cells := 0, slots := 0, locals := 0 } : Room).cells ({ frames := 0, cells := 0, slots := 0, locals := 0 } : Room).slots) := by
  refine MetFree.of_bodySF (plainFor_of_name pn1) hisR ?_
  intro p e s m args below meth c s₁ Bd hml0 hP hK
  obtain ⟨rfl, hZ, hh⟩ := hP
  have hx := Bd.exec
  have hby := Bd.bytes
  have hml : c.maxLocals = 1 := hml0
  have hown : s.vm.findClass "com/example/strict_credit/strictcredit/diameter/ResultCode" = some m.cls := findClass_of_methodNamed Bd.named
  have hnm := (name_of_methodNamed Bd.named Bd.method).1
  have X0 : Stand p l e ({ frames := 0, cells := 0, slots := 0, locals := 0 } : Room) s m #[(.ref (w 8))] below meth c s₁ [] 0 0 := Stand.of_body Bd
  have e0 : s₁.heap = h0 := by rw [← hh, Bd.state]; rfl
  have N0 := Fr.nil n0
  refine Goes.out (Goes.by (fun tz kz => castTop (ef2_R m ((w 8))) kz) ?_)
  show Goes p e below (s₁.setTop (mkF m 0 #[.val (.ref (w 8))] [])) _
  refine Goes.by (fun _ kz => XS.aloadN X0.here hx rfl (hb hby d2_0) rfl rfl kz) ?_
  obtain ⟨T71, X71, e71, st71⟩ := getF X0 hx hZ hown (host := "") (Or.inl (hw _ (List.mem_of_getElem? (i := 21) rfl))) Via.refl e0 P.2.2.2.2.2.2.2.2.2.2.2.2.2.2.2.2.2.2.2.2.2.2.2.2.2.2.2.2.2.2.2.2.2.2.2.2.2.2.2.2.2.2.2.2.2.2.2.2.2.2.2.2.2.2.1 (g := (mkF m 1 #[.val (.ref (w 8))] [(.ref (w 8))])) rfl rfl (hb hby d2_1)
  refine Goes.by st71 ?_
  show Goes p e below (T71.setTop (mkF m 4 #[.val (.ref (w 8))] [(.int (4012 : Int32))])) _
  obtain ⟨fs, hr, hrun, hended, hW, hsame⟩ := X71.leave (v := some (.int (4012 : Int32))) (fun h => by rw [Bd.returns] at h; cases h)
  exact ⟨_, _, retOut X71 hx (t := .int) Bd.returns rfl (Or.inl ⟨rfl, Or.inl rfl, _, rfl⟩) (hb hby d2_4) hr, hrun, hended, _, _, rfl, ⟨rfl, N0, e71⟩, ⟨_, rfl⟩, hW, hsame.mono (by decide) (by decide)⟩
set_option maxRecDepth 65536 in
set_option maxHeartbeats 40000000 in
theorem r3_23 (l : Launch) (Z : State) (a0 : Array Value) (hw : ∀ d ∈ tables_1, d.before a0 Z = true) (ws : List Jvm.Cond) (h0 : Heap) (n0 : Nat) (Z0 : n0 ≤ h0.size) (w : Nat → Addr) (P : Pins Z h0 w) :
    MetFree l (⟨"com/example/strict_credit/strictcredit/diameter/ResultCode", "isProtocolError", "()Z"⟩ : MethodName) (head1 (Jvm.Cond.code (⟨"com/example/strict_credit/strictcredit/diameter/ResultCode", "isProtocolError", "()Z"⟩ : MethodName) prog_39_method_6_code 1 (some .boolean) :: ws) ({ frames := 0, cells := 0, slots := 0, locals := 0 } : Room)) (fun a U => a = #[(.ref (w 8))] ∧ Z.Warmed39 U.vm ∧ U.heap = h0) (fun _ _ _ _ _ => True) (fun _ U o U' => ∃ v L, o = .returned v ∧ QP (some (.int (0 : Int32))) h0 n0 v U'.heap L ∧ FrameEnd U o U' L ({ frames := 0, cells := 0, slots := 0, locals := 0 } : Room).cells ({ frames := 0, cells := 0, slots := 0, locals := 0 } : Room).slots) := by
  refine MetFree.of_bodySF (plainFor_of_name pn1) hisR ?_
  intro p e s m args below meth c s₁ Bd hml0 hP hK
  obtain ⟨rfl, hZ, hh⟩ := hP
  have hx := Bd.exec
  have hby := Bd.bytes
  have hml : c.maxLocals = 1 := hml0
  have hown : s.vm.findClass "com/example/strict_credit/strictcredit/diameter/ResultCode" = some m.cls := findClass_of_methodNamed Bd.named
  have hnm := (name_of_methodNamed Bd.named Bd.method).1
  have X0 : Stand p l e ({ frames := 0, cells := 0, slots := 0, locals := 0 } : Room) s m #[(.ref (w 8))] below meth c s₁ [] 0 0 := Stand.of_body Bd
  have e0 : s₁.heap = h0 := by rw [← hh, Bd.state]; rfl
  have N0 := Fr.nil n0
  refine Goes.out (Goes.by (fun tz kz => castTop (ef3_R m ((w 8))) kz) ?_)
  show Goes p e below (s₁.setTop (mkF m 0 #[.val (.ref (w 8))] [])) _
  refine Goes.by (fun _ kz => XS.aloadN X0.here hx rfl (hb hby d3_0) rfl rfl kz) ?_
  obtain ⟨T73, X73, e73, st73⟩ := getF X0 hx hZ hown (host := "") (Or.inl (hw _ (List.mem_of_getElem? (i := 21) rfl))) Via.refl e0 P.2.2.2.2.2.2.2.2.2.2.2.2.2.2.2.2.2.2.2.2.2.2.2.2.2.2.2.2.2.2.2.2.2.2.2.2.2.2.2.2.2.2.2.2.2.2.2.2.2.2.2.2.2.2.1 (g := (mkF m 1 #[.val (.ref (w 8))] [(.ref (w 8))])) rfl rfl (hb hby d3_1)
  refine Goes.by st73 ?_
  refine Goes.by (fun _ kz => XS.sipush X73.here hx rfl (hb hby d3_4) (XS.idiv X73.here hx rfl (hb hby d3_7) rfl (by decide) kz)) ?_
  show Goes p e below (T73.setTop (mkF m 8 #[.val (.ref (w 8))] [(.int ((4012 : Int32) / (1000 : Int32)))])) _
  rw [show (((4012 : Int32) / (1000 : Int32)) : Int32) = (4 : Int32) from by decide]
  show Goes p e below (T73.setTop (mkF m 8 #[.val (.ref (w 8))] [(.int (4 : Int32))])) _
  refine Goes.by (fun _ kz => XS.iconst X73.here hx rfl (hb hby d3_8) (XS.icmpYes X73.here hx rfl (pc0 := 9) (pc' := 16) rfl (hb hby d3_9) rfl (feq (by decide : ¬ ((4 : Int32) = (3 : Int32)))).2 (by decide) (by decide) (XS.iconst X73.here hx rfl (hb hby d3_16) kz))) ?_
  show Goes p e below (T73.setTop (mkF m 17 #[.val (.ref (w 8))] [(.int (0 : Int32))])) _
  obtain ⟨fs, hr, hrun, hended, hW, hsame⟩ := X73.leave (v := some (.int (0 : Int32))) (fun h => by rw [Bd.returns] at h; cases h)
  exact ⟨_, _, retN X73 hx (t := .boolean) Bd.returns (by simp) (hb hby d3_17) hr, hrun, hended, _, _, rfl, ⟨rfl, N0, e73⟩, ⟨_, rfl⟩, hW, hsame.mono (by decide) (by decide)⟩
set_option maxRecDepth 65536 in
set_option maxHeartbeats 40000000 in
theorem r1_24 (l : Launch) (Z : State) (a0 : Array Value) (hw : ∀ d ∈ tables_1, d.before a0 Z = true) (ws : List Jvm.Cond) (h0 : Heap) (n0 : Nat) (Z0 : n0 ≤ h0.size) (w : Nat → Addr) (P : Pins Z h0 w) :
    MetFree l (⟨"com/example/strict_credit/strictcredit/diameter/ResultCodeIsProtocolErrorPinLaw", "pick", "(I)Lcom/example/strict_credit/strictcredit/diameter/ResultCode;"⟩ : MethodName) (head1 (Jvm.Cond.code (⟨"com/example/strict_credit/strictcredit/diameter/ResultCodeIsProtocolErrorPinLaw", "pick", "(I)Lcom/example/strict_credit/strictcredit/diameter/ResultCode;"⟩ : MethodName) method_2_code 1 (some (.object "com/example/strict_credit/strictcredit/diameter/ResultCode")) :: ws) ({ frames := 0, cells := 0, slots := 0, locals := 0 } : Room)) (fun a U => a = #[(.int (8 : Int32))] ∧ Z.Warmed39 U.vm ∧ U.heap = h0) (fun _ _ _ _ _ => True) (fun _ U o U' => ∃ v L, o = .returned v ∧ QP (some (.ref (w 9))) h0 n0 v U'.heap L ∧ FrameEnd U o U' L ({ frames := 0, cells := 0, slots := 0, locals := 0 } : Room).cells ({ frames := 0, cells := 0, slots := 0, locals := 0 } : Room).slots) := by
  refine MetFree.of_bodySF (plainFor_of_name pn0) hisR ?_
  intro p e s m args below meth c s₁ Bd hml0 hP hK
  obtain ⟨rfl, hZ, hh⟩ := hP
  have hx := Bd.exec
  have hby := Bd.bytes
  have hml : c.maxLocals = 1 := hml0
  have hown : s.vm.findClass "com/example/strict_credit/strictcredit/diameter/ResultCodeIsProtocolErrorPinLaw" = some m.cls := findClass_of_methodNamed Bd.named
  have hnm := (name_of_methodNamed Bd.named Bd.method).1
  have X0 : Stand p l e ({ frames := 0, cells := 0, slots := 0, locals := 0 } : Room) s m #[(.int (8 : Int32))] below meth c s₁ [] 0 0 := Stand.of_body Bd
  have e0 : s₁.heap = h0 := by rw [← hh, Bd.state]; rfl
  have N0 := Fr.nil n0
  refine Goes.out (Goes.by (fun tz kz => castTop (ef1_I m ((8 : Int32))) kz) ?_)
  show Goes p e below (s₁.setTop (mkF m 0 #[.val (.int (8 : Int32))] [])) _
  refine Goes.by (fun _ kz => XS.iloadN X0.here hx rfl (hb hby d1_0) rfl (XS.ifYes X0.here hx rfl (pc0 := 1) (pc' := 8) rfl (hb hby d1_1) rfl ((if0 _ _).trans (feq (by decide : ¬ ((8 : Int32) = (0 : Int32)))).2) (by decide) (by decide) (XS.iloadN X0.here hx rfl (hb hby d1_8) rfl kz))) ?_
  show Goes p e below (s₁.setTop (mkF m 9 #[.val (.int (8 : Int32))] [(.int (8 : Int32))])) _
  refine Goes.by (fun _ kz => XS.iconst X0.here hx rfl (hb hby d1_9) (XS.icmpYes X0.here hx rfl (pc0 := 10) (pc' := 17) rfl (hb hby d1_10) rfl (feq (by decide : ¬ ((8 : Int32) = (1 : Int32)))).2 (by decide) (by decide) (XS.iloadN X0.here hx rfl (hb hby d1_17) rfl kz))) ?_
  show Goes p e below (s₁.setTop (mkF m 18 #[.val (.int (8 : Int32))] [(.int (8 : Int32))])) _
  refine Goes.by (fun _ kz => XS.iconst X0.here hx rfl (hb hby d1_18) (XS.icmpYes X0.here hx rfl (pc0 := 19) (pc' := 26) rfl (hb hby d1_19) rfl (feq (by decide : ¬ ((8 : Int32) = (2 : Int32)))).2 (by decide) (by decide) (XS.iloadN X0.here hx rfl (hb hby d1_26) rfl kz))) ?_
  show Goes p e below (s₁.setTop (mkF m 27 #[.val (.int (8 : Int32))] [(.int (8 : Int32))])) _
  refine Goes.by (fun _ kz => XS.iconst X0.here hx rfl (hb hby d1_27) (XS.icmpYes X0.here hx rfl (pc0 := 28) (pc' := 35) rfl (hb hby d1_28) rfl (feq (by decide : ¬ ((8 : Int32) = (3 : Int32)))).2 (by decide) (by decide) (XS.iloadN X0.here hx rfl (hb hby d1_35) rfl kz))) ?_
  show Goes p e below (s₁.setTop (mkF m 36 #[.val (.int (8 : Int32))] [(.int (8 : Int32))])) _
  refine Goes.by (fun _ kz => XS.iconst X0.here hx rfl (hb hby d1_36) (XS.icmpYes X0.here hx rfl (pc0 := 37) (pc' := 44) rfl (hb hby d1_37) rfl (feq (by decide : ¬ ((8 : Int32) = (4 : Int32)))).2 (by decide) (by decide) (XS.iloadN X0.here hx rfl (hb hby d1_44) rfl kz))) ?_
  show Goes p e below (s₁.setTop (mkF m 45 #[.val (.int (8 : Int32))] [(.int (8 : Int32))])) _
  refine Goes.by (fun _ kz => XS.iconst X0.here hx rfl (hb hby d1_45) (XS.icmpYes X0.here hx rfl (pc0 := 46) (pc' := 53) rfl (hb hby d1_46) rfl (feq (by decide : ¬ ((8 : Int32) = (5 : Int32)))).2 (by decide) (by decide) (XS.iloadN X0.here hx rfl (hb hby d1_53) rfl kz))) ?_
  show Goes p e below (s₁.setTop (mkF m 54 #[.val (.int (8 : Int32))] [(.int (8 : Int32))])) _
  refine Goes.by (fun _ kz => XS.bipush X0.here hx rfl (hb hby d1_54) (XS.icmpYes X0.here hx rfl (pc0 := 56) (pc' := 63) rfl (hb hby d1_56) rfl (feq (by decide : ¬ ((8 : Int32) = (6 : Int32)))).2 (by decide) (by decide) (XS.iloadN X0.here hx rfl (hb hby d1_63) rfl kz))) ?_
  show Goes p e below (s₁.setTop (mkF m 64 #[.val (.int (8 : Int32))] [(.int (8 : Int32))])) _
  refine Goes.by (fun _ kz => XS.bipush X0.here hx rfl (hb hby d1_64) (XS.icmpYes X0.here hx rfl (pc0 := 66) (pc' := 73) rfl (hb hby d1_66) rfl (feq (by decide : ¬ ((8 : Int32) = (7 : Int32)))).2 (by decide) (by decide) (XS.iloadN X0.here hx rfl (hb hby d1_73) rfl kz))) ?_
  show Goes p e below (s₁.setTop (mkF m 74 #[.val (.int (8 : Int32))] [(.int (8 : Int32))])) _
  refine Goes.by (fun _ kz => XS.bipush X0.here hx rfl (hb hby d1_74) (XS.icmpNo X0.here hx rfl (hb hby d1_76) rfl (teq (by decide : (8 : Int32) = (8 : Int32))).2 kz)) ?_
  obtain ⟨T75, X75, e75, st75⟩ := getS2 X0 hx hZ hown (host := "") (Or.inl (hw _ (List.mem_of_getElem? (i := 36) rfl))) Via.refl e0 P.2.2.2.2.2.2.2.2.2.2.2.2.2.2.2.2.2.2.1 (g := (mkF m 79 #[.val (.int (8 : Int32))] [])) rfl (hb hby d1_79)
  refine Goes.by st75 ?_
  show Goes p e below (T75.setTop (mkF m 82 #[.val (.int (8 : Int32))] [(.ref (w 9))])) _
  obtain ⟨fs, hr, hrun, hended, hW, hsame⟩ := X75.leave (v := some (.ref (w 9))) (fun h => by rw [Bd.returns] at h; cases h)
  exact ⟨_, _, retOut X75 hx (t := (.object "com/example/strict_credit/strictcredit/diameter/ResultCode")) Bd.returns rfl (Or.inr (Or.inr (Or.inr (Or.inr ⟨rfl, rfl, rfl⟩)))) (hb hby d1_82) hr, hrun, hended, _, _, rfl, ⟨rfl, N0, e75⟩, ⟨_, rfl⟩, hW, hsame.mono (by decide) (by decide)⟩
set_option maxRecDepth 65536 in
set_option maxHeartbeats 40000000 in
theorem r2_25 (l : Launch) (Z : State) (a0 : Array Value) (hw : ∀ d ∈ tables_1, d.before a0 Z = true) (ws : List Jvm.Cond) (h0 : Heap) (n0 : Nat) (Z0 : n0 ≤ h0.size) (w : Nat → Addr) (P : Pins Z h0 w) :
    MetFree l (⟨"com/example/strict_credit/strictcredit/diameter/ResultCode", "code", "()I"⟩ : MethodName) (head1 (Jvm.Cond.code (⟨"com/example/strict_credit/strictcredit/diameter/ResultCode", "code", "()I"⟩ : MethodName) prog_39_method_4_code 1 (some .int) :: ws) ({ frames := 0, cells := 0, slots := 0, locals := 0 } : Room)) (fun a U => a = #[(.ref (w 9))] ∧ Z.Warmed39 U.vm ∧ U.heap = h0) (fun _ _ _ _ _ => True) (fun _ U o U' => ∃ v L, o = .returned v ∧ QP (some (.int (5001 : Int32))) h0 n0 v U'.heap L ∧ FrameEnd U o U' L ({ frames := 0, cells := 0, slots := 0, locals := 0 } : Room).cells ({ frames := 0, cells := 0, slots := 0, locals := 0 } : Room).slots) := by
  refine MetFree.of_bodySF (plainFor_of_name pn1) hisR ?_
  intro p e s m args below meth c s₁ Bd hml0 hP hK
  obtain ⟨rfl, hZ, hh⟩ := hP
  have hx := Bd.exec
  have hby := Bd.bytes
  have hml : c.maxLocals = 1 := hml0
  have hown : s.vm.findClass "com/example/strict_credit/strictcredit/diameter/ResultCode" = some m.cls := findClass_of_methodNamed Bd.named
  have hnm := (name_of_methodNamed Bd.named Bd.method).1
  have X0 : Stand p l e ({ frames := 0, cells := 0, slots := 0, locals := 0 } : Room) s m #[(.ref (w 9))] below meth c s₁ [] 0 0 := Stand.of_body Bd
  have e0 : s₁.heap = h0 := by rw [← hh, Bd.state]; rfl
  have N0 := Fr.nil n0
  refine Goes.out (Goes.by (fun tz kz => castTop (ef2_R m ((w 9))) kz) ?_)
  show Goes p e below (s₁.setTop (mkF m 0 #[.val (.ref (w 9))] [])) _
  refine Goes.by (fun _ kz => XS.aloadN X0.here hx rfl (hb hby d2_0) rfl rfl kz) ?_
  obtain ⟨T81, X81, e81, st81⟩ := getF X0 hx hZ hown (host := "") (Or.inl (hw _ (List.mem_of_getElem? (i := 21) rfl))) Via.refl e0 P.2.2.2.2.2.2.2.2.2.2.2.2.2.2.2.2.2.2.2.2.2.2.2.2.2.2.2.2.2.2.2.2.2.2.2.2.2.2.2.2.2.2.2.2.2.2.2.2.2.2.2.2.2.2.2.2.2.1 (g := (mkF m 1 #[.val (.ref (w 9))] [(.ref (w 9))])) rfl rfl (hb hby d2_1)
  refine Goes.by st81 ?_
  show Goes p e below (T81.setTop (mkF m 4 #[.val (.ref (w 9))] [(.int (5001 : Int32))])) _
  obtain ⟨fs, hr, hrun, hended, hW, hsame⟩ := X81.leave (v := some (.int (5001 : Int32))) (fun h => by rw [Bd.returns] at h; cases h)
  exact ⟨_, _, retOut X81 hx (t := .int) Bd.returns rfl (Or.inl ⟨rfl, Or.inl rfl, _, rfl⟩) (hb hby d2_4) hr, hrun, hended, _, _, rfl, ⟨rfl, N0, e81⟩, ⟨_, rfl⟩, hW, hsame.mono (by decide) (by decide)⟩
set_option maxRecDepth 65536 in
set_option maxHeartbeats 40000000 in
theorem r3_26 (l : Launch) (Z : State) (a0 : Array Value) (hw : ∀ d ∈ tables_1, d.before a0 Z = true) (ws : List Jvm.Cond) (h0 : Heap) (n0 : Nat) (Z0 : n0 ≤ h0.size) (w : Nat → Addr) (P : Pins Z h0 w) :
    MetFree l (⟨"com/example/strict_credit/strictcredit/diameter/ResultCode", "isProtocolError", "()Z"⟩ : MethodName) (head1 (Jvm.Cond.code (⟨"com/example/strict_credit/strictcredit/diameter/ResultCode", "isProtocolError", "()Z"⟩ : MethodName) prog_39_method_6_code 1 (some .boolean) :: ws) ({ frames := 0, cells := 0, slots := 0, locals := 0 } : Room)) (fun a U => a = #[(.ref (w 9))] ∧ Z.Warmed39 U.vm ∧ U.heap = h0) (fun _ _ _ _ _ => True) (fun _ U o U' => ∃ v L, o = .returned v ∧ QP (some (.int (0 : Int32))) h0 n0 v U'.heap L ∧ FrameEnd U o U' L ({ frames := 0, cells := 0, slots := 0, locals := 0 } : Room).cells ({ frames := 0, cells := 0, slots := 0, locals := 0 } : Room).slots) := by
  refine MetFree.of_bodySF (plainFor_of_name pn1) hisR ?_
  intro p e s m args below meth c s₁ Bd hml0 hP hK
  obtain ⟨rfl, hZ, hh⟩ := hP
  have hx := Bd.exec
  have hby := Bd.bytes
  have hml : c.maxLocals = 1 := hml0
  have hown : s.vm.findClass "com/example/strict_credit/strictcredit/diameter/ResultCode" = some m.cls := findClass_of_methodNamed Bd.named
  have hnm := (name_of_methodNamed Bd.named Bd.method).1
  have X0 : Stand p l e ({ frames := 0, cells := 0, slots := 0, locals := 0 } : Room) s m #[(.ref (w 9))] below meth c s₁ [] 0 0 := Stand.of_body Bd
  have e0 : s₁.heap = h0 := by rw [← hh, Bd.state]; rfl
  have N0 := Fr.nil n0
  refine Goes.out (Goes.by (fun tz kz => castTop (ef3_R m ((w 9))) kz) ?_)
  show Goes p e below (s₁.setTop (mkF m 0 #[.val (.ref (w 9))] [])) _
  refine Goes.by (fun _ kz => XS.aloadN X0.here hx rfl (hb hby d3_0) rfl rfl kz) ?_
  obtain ⟨T83, X83, e83, st83⟩ := getF X0 hx hZ hown (host := "") (Or.inl (hw _ (List.mem_of_getElem? (i := 21) rfl))) Via.refl e0 P.2.2.2.2.2.2.2.2.2.2.2.2.2.2.2.2.2.2.2.2.2.2.2.2.2.2.2.2.2.2.2.2.2.2.2.2.2.2.2.2.2.2.2.2.2.2.2.2.2.2.2.2.2.2.2.2.2.1 (g := (mkF m 1 #[.val (.ref (w 9))] [(.ref (w 9))])) rfl rfl (hb hby d3_1)
  refine Goes.by st83 ?_
  refine Goes.by (fun _ kz => XS.sipush X83.here hx rfl (hb hby d3_4) (XS.idiv X83.here hx rfl (hb hby d3_7) rfl (by decide) kz)) ?_
  show Goes p e below (T83.setTop (mkF m 8 #[.val (.ref (w 9))] [(.int ((5001 : Int32) / (1000 : Int32)))])) _
  rw [show (((5001 : Int32) / (1000 : Int32)) : Int32) = (5 : Int32) from by decide]
  show Goes p e below (T83.setTop (mkF m 8 #[.val (.ref (w 9))] [(.int (5 : Int32))])) _
  refine Goes.by (fun _ kz => XS.iconst X83.here hx rfl (hb hby d3_8) (XS.icmpYes X83.here hx rfl (pc0 := 9) (pc' := 16) rfl (hb hby d3_9) rfl (feq (by decide : ¬ ((5 : Int32) = (3 : Int32)))).2 (by decide) (by decide) (XS.iconst X83.here hx rfl (hb hby d3_16) kz))) ?_
  show Goes p e below (T83.setTop (mkF m 17 #[.val (.ref (w 9))] [(.int (0 : Int32))])) _
  obtain ⟨fs, hr, hrun, hended, hW, hsame⟩ := X83.leave (v := some (.int (0 : Int32))) (fun h => by rw [Bd.returns] at h; cases h)
  exact ⟨_, _, retN X83 hx (t := .boolean) Bd.returns (by simp) (hb hby d3_17) hr, hrun, hended, _, _, rfl, ⟨rfl, N0, e83⟩, ⟨_, rfl⟩, hW, hsame.mono (by decide) (by decide)⟩
set_option maxRecDepth 65536 in
set_option maxHeartbeats 40000000 in
theorem r1_27 (l : Launch) (Z : State) (a0 : Array Value) (hw : ∀ d ∈ tables_1, d.before a0 Z = true) (ws : List Jvm.Cond) (h0 : Heap) (n0 : Nat) (Z0 : n0 ≤ h0.size) (w : Nat → Addr) (P : Pins Z h0 w) :
    MetFree l (⟨"com/example/strict_credit/strictcredit/diameter/ResultCodeIsProtocolErrorPinLaw", "pick", "(I)Lcom/example/strict_credit/strictcredit/diameter/ResultCode;"⟩ : MethodName) (head1 (Jvm.Cond.code (⟨"com/example/strict_credit/strictcredit/diameter/ResultCodeIsProtocolErrorPinLaw", "pick", "(I)Lcom/example/strict_credit/strictcredit/diameter/ResultCode;"⟩ : MethodName) method_2_code 1 (some (.object "com/example/strict_credit/strictcredit/diameter/ResultCode")) :: ws) ({ frames := 0, cells := 0, slots := 0, locals := 0 } : Room)) (fun a U => a = #[(.int (9 : Int32))] ∧ Z.Warmed39 U.vm ∧ U.heap = h0) (fun _ _ _ _ _ => True) (fun _ U o U' => ∃ v L, o = .returned v ∧ QP (some (.ref (w 17))) h0 n0 v U'.heap L ∧ FrameEnd U o U' L ({ frames := 0, cells := 0, slots := 0, locals := 0 } : Room).cells ({ frames := 0, cells := 0, slots := 0, locals := 0 } : Room).slots) := by
  refine MetFree.of_bodySF (plainFor_of_name pn0) hisR ?_
  intro p e s m args below meth c s₁ Bd hml0 hP hK
  obtain ⟨rfl, hZ, hh⟩ := hP
  have hx := Bd.exec
  have hby := Bd.bytes
  have hml : c.maxLocals = 1 := hml0
  have hown : s.vm.findClass "com/example/strict_credit/strictcredit/diameter/ResultCodeIsProtocolErrorPinLaw" = some m.cls := findClass_of_methodNamed Bd.named
  have hnm := (name_of_methodNamed Bd.named Bd.method).1
  have X0 : Stand p l e ({ frames := 0, cells := 0, slots := 0, locals := 0 } : Room) s m #[(.int (9 : Int32))] below meth c s₁ [] 0 0 := Stand.of_body Bd
  have e0 : s₁.heap = h0 := by rw [← hh, Bd.state]; rfl
  have N0 := Fr.nil n0
  refine Goes.out (Goes.by (fun tz kz => castTop (ef1_I m ((9 : Int32))) kz) ?_)
  show Goes p e below (s₁.setTop (mkF m 0 #[.val (.int (9 : Int32))] [])) _
  refine Goes.by (fun _ kz => XS.iloadN X0.here hx rfl (hb hby d1_0) rfl (XS.ifYes X0.here hx rfl (pc0 := 1) (pc' := 8) rfl (hb hby d1_1) rfl ((if0 _ _).trans (feq (by decide : ¬ ((9 : Int32) = (0 : Int32)))).2) (by decide) (by decide) (XS.iloadN X0.here hx rfl (hb hby d1_8) rfl kz))) ?_
  show Goes p e below (s₁.setTop (mkF m 9 #[.val (.int (9 : Int32))] [(.int (9 : Int32))])) _
  refine Goes.by (fun _ kz => XS.iconst X0.here hx rfl (hb hby d1_9) (XS.icmpYes X0.here hx rfl (pc0 := 10) (pc' := 17) rfl (hb hby d1_10) rfl (feq (by decide : ¬ ((9 : Int32) = (1 : Int32)))).2 (by decide) (by decide) (XS.iloadN X0.here hx rfl (hb hby d1_17) rfl kz))) ?_
  show Goes p e below (s₁.setTop (mkF m 18 #[.val (.int (9 : Int32))] [(.int (9 : Int32))])) _
  refine Goes.by (fun _ kz => XS.iconst X0.here hx rfl (hb hby d1_18) (XS.icmpYes X0.here hx rfl (pc0 := 19) (pc' := 26) rfl (hb hby d1_19) rfl (feq (by decide : ¬ ((9 : Int32) = (2 : Int32)))).2 (by decide) (by decide) (XS.iloadN X0.here hx rfl (hb hby d1_26) rfl kz))) ?_
  show Goes p e below (s₁.setTop (mkF m 27 #[.val (.int (9 : Int32))] [(.int (9 : Int32))])) _
  refine Goes.by (fun _ kz => XS.iconst X0.here hx rfl (hb hby d1_27) (XS.icmpYes X0.here hx rfl (pc0 := 28) (pc' := 35) rfl (hb hby d1_28) rfl (feq (by decide : ¬ ((9 : Int32) = (3 : Int32)))).2 (by decide) (by decide) (XS.iloadN X0.here hx rfl (hb hby d1_35) rfl kz))) ?_
  show Goes p e below (s₁.setTop (mkF m 36 #[.val (.int (9 : Int32))] [(.int (9 : Int32))])) _
  refine Goes.by (fun _ kz => XS.iconst X0.here hx rfl (hb hby d1_36) (XS.icmpYes X0.here hx rfl (pc0 := 37) (pc' := 44) rfl (hb hby d1_37) rfl (feq (by decide : ¬ ((9 : Int32) = (4 : Int32)))).2 (by decide) (by decide) (XS.iloadN X0.here hx rfl (hb hby d1_44) rfl kz))) ?_
  show Goes p e below (s₁.setTop (mkF m 45 #[.val (.int (9 : Int32))] [(.int (9 : Int32))])) _
  refine Goes.by (fun _ kz => XS.iconst X0.here hx rfl (hb hby d1_45) (XS.icmpYes X0.here hx rfl (pc0 := 46) (pc' := 53) rfl (hb hby d1_46) rfl (feq (by decide : ¬ ((9 : Int32) = (5 : Int32)))).2 (by decide) (by decide) (XS.iloadN X0.here hx rfl (hb hby d1_53) rfl kz))) ?_
  show Goes p e below (s₁.setTop (mkF m 54 #[.val (.int (9 : Int32))] [(.int (9 : Int32))])) _
  refine Goes.by (fun _ kz => XS.bipush X0.here hx rfl (hb hby d1_54) (XS.icmpYes X0.here hx rfl (pc0 := 56) (pc' := 63) rfl (hb hby d1_56) rfl (feq (by decide : ¬ ((9 : Int32) = (6 : Int32)))).2 (by decide) (by decide) (XS.iloadN X0.here hx rfl (hb hby d1_63) rfl kz))) ?_
  show Goes p e below (s₁.setTop (mkF m 64 #[.val (.int (9 : Int32))] [(.int (9 : Int32))])) _
  refine Goes.by (fun _ kz => XS.bipush X0.here hx rfl (hb hby d1_64) (XS.icmpYes X0.here hx rfl (pc0 := 66) (pc' := 73) rfl (hb hby d1_66) rfl (feq (by decide : ¬ ((9 : Int32) = (7 : Int32)))).2 (by decide) (by decide) (XS.iloadN X0.here hx rfl (hb hby d1_73) rfl kz))) ?_
  show Goes p e below (s₁.setTop (mkF m 74 #[.val (.int (9 : Int32))] [(.int (9 : Int32))])) _
  refine Goes.by (fun _ kz => XS.bipush X0.here hx rfl (hb hby d1_74) (XS.icmpYes X0.here hx rfl (pc0 := 76) (pc' := 83) rfl (hb hby d1_76) rfl (feq (by decide : ¬ ((9 : Int32) = (8 : Int32)))).2 (by decide) (by decide) (XS.iloadN X0.here hx rfl (hb hby d1_83) rfl kz))) ?_
  show Goes p e below (s₁.setTop (mkF m 84 #[.val (.int (9 : Int32))] [(.int (9 : Int32))])) _
  refine Goes.by (fun _ kz => XS.bipush X0.here hx rfl (hb hby d1_84) (XS.icmpNo X0.here hx rfl (hb hby d1_86) rfl (teq (by decide : (9 : Int32) = (9 : Int32))).2 kz)) ?_
  obtain ⟨T85, X85, e85, st85⟩ := getS2 X0 hx hZ hown (host := "") (Or.inl (hw _ (List.mem_of_getElem? (i := 52) rfl))) Via.refl e0 P.2.2.2.2.2.2.2.2.2.2.2.2.2.2.2.2.2.2.2.2.2.2.2.2.2.2.2.2.2.2.2.2.2.2.1 (g := (mkF m 89 #[.val (.int (9 : Int32))] [])) rfl (hb hby d1_89)
  refine Goes.by st85 ?_
  show Goes p e below (T85.setTop (mkF m 92 #[.val (.int (9 : Int32))] [(.ref (w 17))])) _
  obtain ⟨fs, hr, hrun, hended, hW, hsame⟩ := X85.leave (v := some (.ref (w 17))) (fun h => by rw [Bd.returns] at h; cases h)
  exact ⟨_, _, retOut X85 hx (t := (.object "com/example/strict_credit/strictcredit/diameter/ResultCode")) Bd.returns rfl (Or.inr (Or.inr (Or.inr (Or.inr ⟨rfl, rfl, rfl⟩)))) (hb hby d1_92) hr, hrun, hended, _, _, rfl, ⟨rfl, N0, e85⟩, ⟨_, rfl⟩, hW, hsame.mono (by decide) (by decide)⟩
set_option maxRecDepth 65536 in
set_option maxHeartbeats 40000000 in
theorem r2_28 (l : Launch) (Z : State) (a0 : Array Value) (hw : ∀ d ∈ tables_1, d.before a0 Z = true) (ws : List Jvm.Cond) (h0 : Heap) (n0 : Nat) (Z0 : n0 ≤ h0.size) (w : Nat → Addr) (P : Pins Z h0 w) :
    MetFree l (⟨"com/example/strict_credit/strictcredit/diameter/ResultCode", "code", "()I"⟩ : MethodName) (head1 (Jvm.Cond.code (⟨"com/example/strict_credit/strictcredit/diameter/ResultCode", "code", "()I"⟩ : MethodName) prog_39_method_4_code 1 (some .int) :: ws) ({ frames := 0, cells := 0, slots := 0, locals := 0 } : Room)) (fun a U => a = #[(.ref (w 17))] ∧ Z.Warmed39 U.vm ∧ U.heap = h0) (fun _ _ _ _ _ => True) (fun _ U o U' => ∃ v L, o = .returned v ∧ QP (some (.int (5002 : Int32))) h0 n0 v U'.heap L ∧ FrameEnd U o U' L ({ frames := 0, cells := 0, slots := 0, locals := 0 } : Room).cells ({ frames := 0, cells := 0, slots := 0, locals := 0 } : Room).slots) := by
  refine MetFree.of_bodySF (plainFor_of_name pn1) hisR ?_
  intro p e s m args below meth c s₁ Bd hml0 hP hK
  obtain ⟨rfl, hZ, hh⟩ := hP
  have hx := Bd.exec
  have hby := Bd.bytes
  have hml : c.maxLocals = 1 := hml0
  have hown : s.vm.findClass "com/example/strict_credit/strictcredit/diameter/ResultCode" = some m.cls := findClass_of_methodNamed Bd.named
  have hnm := (name_of_methodNamed Bd.named Bd.method).1
  have X0 : Stand p l e ({ frames := 0, cells := 0, slots := 0, locals := 0 } : Room) s m #[(.ref (w 17))] below meth c s₁ [] 0 0 := Stand.of_body Bd
  have e0 : s₁.heap = h0 := by rw [← hh, Bd.state]; rfl
  have N0 := Fr.nil n0
  refine Goes.out (Goes.by (fun tz kz => castTop (ef2_R m ((w 17))) kz) ?_)
  show Goes p e below (s₁.setTop (mkF m 0 #[.val (.ref (w 17))] [])) _
  refine Goes.by (fun _ kz => XS.aloadN X0.here hx rfl (hb hby d2_0) rfl rfl kz) ?_
  obtain ⟨T91, X91, e91, st91⟩ := getF X0 hx hZ hown (host := "") (Or.inl (hw _ (List.mem_of_getElem? (i := 21) rfl))) Via.refl e0 P.2.2.2.2.2.2.2.2.2.2.2.2.2.2.2.2.2.2.2.2.2.2.2.2.2.2.2.2.2.2.2.2.2.2.2.2.2.2.2.2.2.2.2.2.2.2.2.2.2.2.2.2.2.2.2.2.2.2.2.2.2.2.2.2.2.2.2.2.2.2.2.2.2.2.2.1 (g := (mkF m 1 #[.val (.ref (w 17))] [(.ref (w 17))])) rfl rfl (hb hby d2_1)
  refine Goes.by st91 ?_
  show Goes p e below (T91.setTop (mkF m 4 #[.val (.ref (w 17))] [(.int (5002 : Int32))])) _
  obtain ⟨fs, hr, hrun, hended, hW, hsame⟩ := X91.leave (v := some (.int (5002 : Int32))) (fun h => by rw [Bd.returns] at h; cases h)
  exact ⟨_, _, retOut X91 hx (t := .int) Bd.returns rfl (Or.inl ⟨rfl, Or.inl rfl, _, rfl⟩) (hb hby d2_4) hr, hrun, hended, _, _, rfl, ⟨rfl, N0, e91⟩, ⟨_, rfl⟩, hW, hsame.mono (by decide) (by decide)⟩
set_option maxRecDepth 65536 in
set_option maxHeartbeats 40000000 in
theorem r3_29 (l : Launch) (Z : State) (a0 : Array Value) (hw : ∀ d ∈ tables_1, d.before a0 Z = true) (ws : List Jvm.Cond) (h0 : Heap) (n0 : Nat) (Z0 : n0 ≤ h0.size) (w : Nat → Addr) (P : Pins Z h0 w) :
    MetFree l (⟨"com/example/strict_credit/strictcredit/diameter/ResultCode", "isProtocolError", "()Z"⟩ : MethodName) (head1 (Jvm.Cond.code (⟨"com/example/strict_credit/strictcredit/diameter/ResultCode", "isProtocolError", "()Z"⟩ : MethodName) prog_39_method_6_code 1 (some .boolean) :: ws) ({ frames := 0, cells := 0, slots := 0, locals := 0 } : Room)) (fun a U => a = #[(.ref (w 17))] ∧ Z.Warmed39 U.vm ∧ U.heap = h0) (fun _ _ _ _ _ => True) (fun _ U o U' => ∃ v L, o = .returned v ∧ QP (some (.int (0 : Int32))) h0 n0 v U'.heap L ∧ FrameEnd U o U' L ({ frames := 0, cells := 0, slots := 0, locals := 0 } : Room).cells ({ frames := 0, cells := 0, slots := 0, locals := 0 } : Room).slots) := by
  refine MetFree.of_bodySF (plainFor_of_name pn1) hisR ?_
  intro p e s m args below meth c s₁ Bd hml0 hP hK
  obtain ⟨rfl, hZ, hh⟩ := hP
  have hx := Bd.exec
  have hby := Bd.bytes
  have hml : c.maxLocals = 1 := hml0
  have hown : s.vm.findClass "com/example/strict_credit/strictcredit/diameter/ResultCode" = some m.cls := findClass_of_methodNamed Bd.named
  have hnm := (name_of_methodNamed Bd.named Bd.method).1
  have X0 : Stand p l e ({ frames := 0, cells := 0, slots := 0, locals := 0 } : Room) s m #[(.ref (w 17))] below meth c s₁ [] 0 0 := Stand.of_body Bd
  have e0 : s₁.heap = h0 := by rw [← hh, Bd.state]; rfl
  have N0 := Fr.nil n0
  refine Goes.out (Goes.by (fun tz kz => castTop (ef3_R m ((w 17))) kz) ?_)
  show Goes p e below (s₁.setTop (mkF m 0 #[.val (.ref (w 17))] [])) _
  refine Goes.by (fun _ kz => XS.aloadN X0.here hx rfl (hb hby d3_0) rfl rfl kz) ?_
  obtain ⟨T93, X93, e93, st93⟩ := getF X0 hx hZ hown (host := "") (Or.inl (hw _ (List.mem_of_getElem? (i := 21) rfl))) Via.refl e0 P.2.2.2.2.2.2.2.2.2.2.2.2.2.2.2.2.2.2.2.2.2.2.2.2.2.2.2.2.2.2.2.2.2.2.2.2.2.2.2.2.2.2.2.2.2.2.2.2.2.2.2.2.2.2.2.2.2.2.2.2.2.2.2.2.2.2.2.2.2.2.2.2.2.2.2.1 (g := (mkF m 1 #[.val (.ref (w 17))] [(.ref (w 17))])) rfl rfl (hb hby d3_1)
  refine Goes.by st93 ?_
  refine Goes.by (fun _ kz => XS.sipush X93.here hx rfl (hb hby d3_4) (XS.idiv X93.here hx rfl (hb hby d3_7) rfl (by decide) kz)) ?_
  show Goes p e below (T93.setTop (mkF m 8 #[.val (.ref (w 17))] [(.int ((5002 : Int32) / (1000 : Int32)))])) _
  rw [show (((5002 : Int32) / (1000 : Int32)) : Int32) = (5 : Int32) from by decide]
  show Goes p e below (T93.setTop (mkF m 8 #[.val (.ref (w 17))] [(.int (5 : Int32))])) _
  refine Goes.by (fun _ kz => XS.iconst X93.here hx rfl (hb hby d3_8) (XS.icmpYes X93.here hx rfl (pc0 := 9) (pc' := 16) rfl (hb hby d3_9) rfl (feq (by decide : ¬ ((5 : Int32) = (3 : Int32)))).2 (by decide) (by decide) (XS.iconst X93.here hx rfl (hb hby d3_16) kz))) ?_
  show Goes p e below (T93.setTop (mkF m 17 #[.val (.ref (w 17))] [(.int (0 : Int32))])) _
  obtain ⟨fs, hr, hrun, hended, hW, hsame⟩ := X93.leave (v := some (.int (0 : Int32))) (fun h => by rw [Bd.returns] at h; cases h)
  exact ⟨_, _, retN X93 hx (t := .boolean) Bd.returns (by simp) (hb hby d3_17) hr, hrun, hended, _, _, rfl, ⟨rfl, N0, e93⟩, ⟨_, rfl⟩, hW, hsame.mono (by decide) (by decide)⟩
set_option maxRecDepth 65536 in
set_option maxHeartbeats 40000000 in
theorem r1_30 (l : Launch) (Z : State) (a0 : Array Value) (hw : ∀ d ∈ tables_1, d.before a0 Z = true) (ws : List Jvm.Cond) (h0 : Heap) (n0 : Nat) (Z0 : n0 ≤ h0.size) (w : Nat → Addr) (P : Pins Z h0 w) :
    MetFree l (⟨"com/example/strict_credit/strictcredit/diameter/ResultCodeIsProtocolErrorPinLaw", "pick", "(I)Lcom/example/strict_credit/strictcredit/diameter/ResultCode;"⟩ : MethodName) (head1 (Jvm.Cond.code (⟨"com/example/strict_credit/strictcredit/diameter/ResultCodeIsProtocolErrorPinLaw", "pick", "(I)Lcom/example/strict_credit/strictcredit/diameter/ResultCode;"⟩ : MethodName) method_2_code 1 (some (.object "com/example/strict_credit/strictcredit/diameter/ResultCode")) :: ws) ({ frames := 0, cells := 0, slots := 0, locals := 0 } : Room)) (fun a U => a = #[(.int (10 : Int32))] ∧ Z.Warmed39 U.vm ∧ U.heap = h0) (fun _ _ _ _ _ => True) (fun _ U o U' => ∃ v L, o = .returned v ∧ QP (some (.ref (w 5))) h0 n0 v U'.heap L ∧ FrameEnd U o U' L ({ frames := 0, cells := 0, slots := 0, locals := 0 } : Room).cells ({ frames := 0, cells := 0, slots := 0, locals := 0 } : Room).slots) := by
  refine MetFree.of_bodySF (plainFor_of_name pn0) hisR ?_
  intro p e s m args below meth c s₁ Bd hml0 hP hK
  obtain ⟨rfl, hZ, hh⟩ := hP
  have hx := Bd.exec
  have hby := Bd.bytes
  have hml : c.maxLocals = 1 := hml0
  have hown : s.vm.findClass "com/example/strict_credit/strictcredit/diameter/ResultCodeIsProtocolErrorPinLaw" = some m.cls := findClass_of_methodNamed Bd.named
  have hnm := (name_of_methodNamed Bd.named Bd.method).1
  have X0 : Stand p l e ({ frames := 0, cells := 0, slots := 0, locals := 0 } : Room) s m #[(.int (10 : Int32))] below meth c s₁ [] 0 0 := Stand.of_body Bd
  have e0 : s₁.heap = h0 := by rw [← hh, Bd.state]; rfl
  have N0 := Fr.nil n0
  refine Goes.out (Goes.by (fun tz kz => castTop (ef1_I m ((10 : Int32))) kz) ?_)
  show Goes p e below (s₁.setTop (mkF m 0 #[.val (.int (10 : Int32))] [])) _
  refine Goes.by (fun _ kz => XS.iloadN X0.here hx rfl (hb hby d1_0) rfl (XS.ifYes X0.here hx rfl (pc0 := 1) (pc' := 8) rfl (hb hby d1_1) rfl ((if0 _ _).trans (feq (by decide : ¬ ((10 : Int32) = (0 : Int32)))).2) (by decide) (by decide) (XS.iloadN X0.here hx rfl (hb hby d1_8) rfl kz))) ?_
  show Goes p e below (s₁.setTop (mkF m 9 #[.val (.int (10 : Int32))] [(.int (10 : Int32))])) _
  refine Goes.by (fun _ kz => XS.iconst X0.here hx rfl (hb hby d1_9) (XS.icmpYes X0.here hx rfl (pc0 := 10) (pc' := 17) rfl (hb hby d1_10) rfl (feq (by decide : ¬ ((10 : Int32) = (1 : Int32)))).2 (by decide) (by decide) (XS.iloadN X0.here hx rfl (hb hby d1_17) rfl kz))) ?_
  show Goes p e below (s₁.setTop (mkF m 18 #[.val (.int (10 : Int32))] [(.int (10 : Int32))])) _
  refine Goes.by (fun _ kz => XS.iconst X0.here hx rfl (hb hby d1_18) (XS.icmpYes X0.here hx rfl (pc0 := 19) (pc' := 26) rfl (hb hby d1_19) rfl (feq (by decide : ¬ ((10 : Int32) = (2 : Int32)))).2 (by decide) (by decide) (XS.iloadN X0.here hx rfl (hb hby d1_26) rfl kz))) ?_
  show Goes p e below (s₁.setTop (mkF m 27 #[.val (.int (10 : Int32))] [(.int (10 : Int32))])) _
  refine Goes.by (fun _ kz => XS.iconst X0.here hx rfl (hb hby d1_27) (XS.icmpYes X0.here hx rfl (pc0 := 28) (pc' := 35) rfl (hb hby d1_28) rfl (feq (by decide : ¬ ((10 : Int32) = (3 : Int32)))).2 (by decide) (by decide) (XS.iloadN X0.here hx rfl (hb hby d1_35) rfl kz))) ?_
  show Goes p e below (s₁.setTop (mkF m 36 #[.val (.int (10 : Int32))] [(.int (10 : Int32))])) _
  refine Goes.by (fun _ kz => XS.iconst X0.here hx rfl (hb hby d1_36) (XS.icmpYes X0.here hx rfl (pc0 := 37) (pc' := 44) rfl (hb hby d1_37) rfl (feq (by decide : ¬ ((10 : Int32) = (4 : Int32)))).2 (by decide) (by decide) (XS.iloadN X0.here hx rfl (hb hby d1_44) rfl kz))) ?_
  show Goes p e below (s₁.setTop (mkF m 45 #[.val (.int (10 : Int32))] [(.int (10 : Int32))])) _
  refine Goes.by (fun _ kz => XS.iconst X0.here hx rfl (hb hby d1_45) (XS.icmpYes X0.here hx rfl (pc0 := 46) (pc' := 53) rfl (hb hby d1_46) rfl (feq (by decide : ¬ ((10 : Int32) = (5 : Int32)))).2 (by decide) (by decide) (XS.iloadN X0.here hx rfl (hb hby d1_53) rfl kz))) ?_
  show Goes p e below (s₁.setTop (mkF m 54 #[.val (.int (10 : Int32))] [(.int (10 : Int32))])) _
  refine Goes.by (fun _ kz => XS.bipush X0.here hx rfl (hb hby d1_54) (XS.icmpYes X0.here hx rfl (pc0 := 56) (pc' := 63) rfl (hb hby d1_56) rfl (feq (by decide : ¬ ((10 : Int32) = (6 : Int32)))).2 (by decide) (by decide) (XS.iloadN X0.here hx rfl (hb hby d1_63) rfl kz))) ?_
  show Goes p e below (s₁.setTop (mkF m 64 #[.val (.int (10 : Int32))] [(.int (10 : Int32))])) _
  refine Goes.by (fun _ kz => XS.bipush X0.here hx rfl (hb hby d1_64) (XS.icmpYes X0.here hx rfl (pc0 := 66) (pc' := 73) rfl (hb hby d1_66) rfl (feq (by decide : ¬ ((10 : Int32) = (7 : Int32)))).2 (by decide) (by decide) (XS.iloadN X0.here hx rfl (hb hby d1_73) rfl kz))) ?_
  show Goes p e below (s₁.setTop (mkF m 74 #[.val (.int (10 : Int32))] [(.int (10 : Int32))])) _
  refine Goes.by (fun _ kz => XS.bipush X0.here hx rfl (hb hby d1_74) (XS.icmpYes X0.here hx rfl (pc0 := 76) (pc' := 83) rfl (hb hby d1_76) rfl (feq (by decide : ¬ ((10 : Int32) = (8 : Int32)))).2 (by decide) (by decide) (XS.iloadN X0.here hx rfl (hb hby d1_83) rfl kz))) ?_
  show Goes p e below (s₁.setTop (mkF m 84 #[.val (.int (10 : Int32))] [(.int (10 : Int32))])) _
  refine Goes.by (fun _ kz => XS.bipush X0.here hx rfl (hb hby d1_84) (XS.icmpYes X0.here hx rfl (pc0 := 86) (pc' := 93) rfl (hb hby d1_86) rfl (feq (by decide : ¬ ((10 : Int32) = (9 : Int32)))).2 (by decide) (by decide) (XS.iloadN X0.here hx rfl (hb hby d1_93) rfl kz))) ?_
  show Goes p e below (s₁.setTop (mkF m 94 #[.val (.int (10 : Int32))] [(.int (10 : Int32))])) _
  refine Goes.by (fun _ kz => XS.bipush X0.here hx rfl (hb hby d1_94) (XS.icmpNo X0.here hx rfl (hb hby d1_96) rfl (teq (by decide : (10 : Int32) = (10 : Int32))).2 kz)) ?_
  obtain ⟨T95, X95, e95, st95⟩ := getS2 X0 hx hZ hown (host := "") (Or.inl (hw _ (List.mem_of_getElem? (i := 28) rfl))) Via.refl e0 P.2.2.2.2.2.2.2.2.2.2.1 (g := (mkF m 99 #[.val (.int (10 : Int32))] [])) rfl (hb hby d1_99)
  refine Goes.by st95 ?_
  show Goes p e below (T95.setTop (mkF m 102 #[.val (.int (10 : Int32))] [(.ref (w 5))])) _
  obtain ⟨fs, hr, hrun, hended, hW, hsame⟩ := X95.leave (v := some (.ref (w 5))) (fun h => by rw [Bd.returns] at h; cases h)
  exact ⟨_, _, retOut X95 hx (t := (.object "com/example/strict_credit/strictcredit/diameter/ResultCode")) Bd.returns rfl (Or.inr (Or.inr (Or.inr (Or.inr ⟨rfl, rfl, rfl⟩)))) (hb hby d1_102) hr, hrun, hended, _, _, rfl, ⟨rfl, N0, e95⟩, ⟨_, rfl⟩, hW, hsame.mono (by decide) (by decide)⟩
set_option maxRecDepth 65536 in
set_option maxHeartbeats 40000000 in
theorem r2_31 (l : Launch) (Z : State) (a0 : Array Value) (hw : ∀ d ∈ tables_1, d.before a0 Z = true) (ws : List Jvm.Cond) (h0 : Heap) (n0 : Nat) (Z0 : n0 ≤ h0.size) (w : Nat → Addr) (P : Pins Z h0 w) :
    MetFree l (⟨"com/example/strict_credit/strictcredit/diameter/ResultCode", "code", "()I"⟩ : MethodName) (head1 (Jvm.Cond.code (⟨"com/example/strict_credit/strictcredit/diameter/ResultCode", "code", "()I"⟩ : MethodName) prog_39_method_4_code 1 (some .int) :: ws) ({ frames := 0, cells := 0, slots := 0, locals := 0 } : Room)) (fun a U => a = #[(.ref (w 5))] ∧ Z.Warmed39 U.vm ∧ U.heap = h0) (fun _ _ _ _ _ => True) (fun _ U o U' => ∃ v L, o = .returned v ∧ QP (some (.int (5004 : Int32))) h0 n0 v U'.heap L ∧ FrameEnd U o U' L ({ frames := 0, cells := 0, slots := 0, locals := 0 } : Room).cells ({ frames := 0, cells := 0, slots := 0, locals := 0 } : Room).slots) := by
  refine MetFree.of_bodySF (plainFor_of_name pn1) hisR ?_
  intro p e s m args below meth c s₁ Bd hml0 hP hK
  obtain ⟨rfl, hZ, hh⟩ := hP
  have hx := Bd.exec
  have hby := Bd.bytes
  have hml : c.maxLocals = 1 := hml0
  have hown : s.vm.findClass "com/example/strict_credit/strictcredit/diameter/ResultCode" = some m.cls := findClass_of_methodNamed Bd.named
  have hnm := (name_of_methodNamed Bd.named Bd.method).1
  have X0 : Stand p l e ({ frames := 0, cells := 0, slots := 0, locals := 0 } : Room) s m #[(.ref (w 5))] below meth c s₁ [] 0 0 := Stand.of_body Bd
  have e0 : s₁.heap = h0 := by rw [← hh, Bd.state]; rfl
  have N0 := Fr.nil n0
  refine Goes.out (Goes.by (fun tz kz => castTop (ef2_R m ((w 5))) kz) ?_)
  show Goes p e below (s₁.setTop (mkF m 0 #[.val (.ref (w 5))] [])) _
  refine Goes.by (fun _ kz => XS.aloadN X0.here hx rfl (hb hby d2_0) rfl rfl kz) ?_
  obtain ⟨T101, X101, e101, st101⟩ := getF X0 hx hZ hown (host := "") (Or.inl (hw _ (List.mem_of_getElem? (i := 21) rfl))) Via.refl e0 P.2.2.2.2.2.2.2.2.2.2.2.2.2.2.2.2.2.2.2.2.2.2.2.2.2.2.2.2.2.2.2.2.2.2.2.2.2.2.2.2.2.2.2.2.2.2.2.2.1 (g := (mkF m 1 #[.val (.ref (w 5))] [(.ref (w 5))])) rfl rfl (hb hby d2_1)
  refine Goes.by st101 ?_
  show Goes p e below (T101.setTop (mkF m 4 #[.val (.ref (w 5))] [(.int (5004 : Int32))])) _
  obtain ⟨fs, hr, hrun, hended, hW, hsame⟩ := X101.leave (v := some (.int (5004 : Int32))) (fun h => by rw [Bd.returns] at h; cases h)
  exact ⟨_, _, retOut X101 hx (t := .int) Bd.returns rfl (Or.inl ⟨rfl, Or.inl rfl, _, rfl⟩) (hb hby d2_4) hr, hrun, hended, _, _, rfl, ⟨rfl, N0, e101⟩, ⟨_, rfl⟩, hW, hsame.mono (by decide) (by decide)⟩
set_option maxRecDepth 65536 in
set_option maxHeartbeats 40000000 in
theorem r3_32 (l : Launch) (Z : State) (a0 : Array Value) (hw : ∀ d ∈ tables_1, d.before a0 Z = true) (ws : List Jvm.Cond) (h0 : Heap) (n0 : Nat) (Z0 : n0 ≤ h0.size) (w : Nat → Addr) (P : Pins Z h0 w) :
    MetFree l (⟨"com/example/strict_credit/strictcredit/diameter/ResultCode", "isProtocolError", "()Z"⟩ : MethodName) (head1 (Jvm.Cond.code (⟨"com/example/strict_credit/strictcredit/diameter/ResultCode", "isProtocolError", "()Z"⟩ : MethodName) prog_39_method_6_code 1 (some .boolean) :: ws) ({ frames := 0, cells := 0, slots := 0, locals := 0 } : Room)) (fun a U => a = #[(.ref (w 5))] ∧ Z.Warmed39 U.vm ∧ U.heap = h0) (fun _ _ _ _ _ => True) (fun _ U o U' => ∃ v L, o = .returned v ∧ QP (some (.int (0 : Int32))) h0 n0 v U'.heap L ∧ FrameEnd U o U' L ({ frames := 0, cells := 0, slots := 0, locals := 0 } : Room).cells ({ frames := 0, cells := 0, slots := 0, locals := 0 } : Room).slots) := by
  refine MetFree.of_bodySF (plainFor_of_name pn1) hisR ?_
  intro p e s m args below meth c s₁ Bd hml0 hP hK
  obtain ⟨rfl, hZ, hh⟩ := hP
  have hx := Bd.exec
  have hby := Bd.bytes
  have hml : c.maxLocals = 1 := hml0
  have hown : s.vm.findClass "com/example/strict_credit/strictcredit/diameter/ResultCode" = some m.cls := findClass_of_methodNamed Bd.named
  have hnm := (name_of_methodNamed Bd.named Bd.method).1
  have X0 : Stand p l e ({ frames := 0, cells := 0, slots := 0, locals := 0 } : Room) s m #[(.ref (w 5))] below meth c s₁ [] 0 0 := Stand.of_body Bd
  have e0 : s₁.heap = h0 := by rw [← hh, Bd.state]; rfl
  have N0 := Fr.nil n0
  refine Goes.out (Goes.by (fun tz kz => castTop (ef3_R m ((w 5))) kz) ?_)
  show Goes p e below (s₁.setTop (mkF m 0 #[.val (.ref (w 5))] [])) _
  refine Goes.by (fun _ kz => XS.aloadN X0.here hx rfl (hb hby d3_0) rfl rfl kz) ?_
  obtain ⟨T103, X103, e103, st103⟩ := getF X0 hx hZ hown (host := "") (Or.inl (hw _ (List.mem_of_getElem? (i := 21) rfl))) Via.refl e0 P.2.2.2.2.2.2.2.2.2.2.2.2.2.2.2.2.2.2.2.2.2.2.2.2.2.2.2.2.2.2.2.2.2.2.2.2.2.2.2.2.2.2.2.2.2.2.2.2.1 (g := (mkF m 1 #[.val (.ref (w 5))] [(.ref (w 5))])) rfl rfl (hb hby d3_1)
  refine Goes.by st103 ?_
  refine Goes.by (fun _ kz => XS.sipush X103.here hx rfl (hb hby d3_4) (XS.idiv X103.here hx rfl (hb hby d3_7) rfl (by decide) kz)) ?_
  show Goes p e below (T103.setTop (mkF m 8 #[.val (.ref (w 5))] [(.int ((5004 : Int32) / (1000 : Int32)))])) _
  rw [show (((5004 : Int32) / (1000 : Int32)) : Int32) = (5 : Int32) from by decide]
  show Goes p e below (T103.setTop (mkF m 8 #[.val (.ref (w 5))] [(.int (5 : Int32))])) _
  refine Goes.by (fun _ kz => XS.iconst X103.here hx rfl (hb hby d3_8) (XS.icmpYes X103.here hx rfl (pc0 := 9) (pc' := 16) rfl (hb hby d3_9) rfl (feq (by decide : ¬ ((5 : Int32) = (3 : Int32)))).2 (by decide) (by decide) (XS.iconst X103.here hx rfl (hb hby d3_16) kz))) ?_
  show Goes p e below (T103.setTop (mkF m 17 #[.val (.ref (w 5))] [(.int (0 : Int32))])) _
  obtain ⟨fs, hr, hrun, hended, hW, hsame⟩ := X103.leave (v := some (.int (0 : Int32))) (fun h => by rw [Bd.returns] at h; cases h)
  exact ⟨_, _, retN X103 hx (t := .boolean) Bd.returns (by simp) (hb hby d3_17) hr, hrun, hended, _, _, rfl, ⟨rfl, N0, e103⟩, ⟨_, rfl⟩, hW, hsame.mono (by decide) (by decide)⟩
set_option maxRecDepth 65536 in
set_option maxHeartbeats 40000000 in
theorem r1_33 (l : Launch) (Z : State) (a0 : Array Value) (hw : ∀ d ∈ tables_1, d.before a0 Z = true) (ws : List Jvm.Cond) (h0 : Heap) (n0 : Nat) (Z0 : n0 ≤ h0.size) (w : Nat → Addr) (P : Pins Z h0 w) :
    MetFree l (⟨"com/example/strict_credit/strictcredit/diameter/ResultCodeIsProtocolErrorPinLaw", "pick", "(I)Lcom/example/strict_credit/strictcredit/diameter/ResultCode;"⟩ : MethodName) (head1 (Jvm.Cond.code (⟨"com/example/strict_credit/strictcredit/diameter/ResultCodeIsProtocolErrorPinLaw", "pick", "(I)Lcom/example/strict_credit/strictcredit/diameter/ResultCode;"⟩ : MethodName) method_2_code 1 (some (.object "com/example/strict_credit/strictcredit/diameter/ResultCode")) :: ws) ({ frames := 0, cells := 0, slots := 0, locals := 0 } : Room)) (fun a U => a = #[(.int (11 : Int32))] ∧ Z.Warmed39 U.vm ∧ U.heap = h0) (fun _ _ _ _ _ => True) (fun _ U o U' => ∃ v L, o = .returned v ∧ QP (some (.ref (w 6))) h0 n0 v U'.heap L ∧ FrameEnd U o U' L ({ frames := 0, cells := 0, slots := 0, locals := 0 } : Room).cells ({ frames := 0, cells := 0, slots := 0, locals := 0 } : Room).slots) := by
  refine MetFree.of_bodySF (plainFor_of_name pn0) hisR ?_
  intro p e s m args below meth c s₁ Bd hml0 hP hK
  obtain ⟨rfl, hZ, hh⟩ := hP
  have hx := Bd.exec
  have hby := Bd.bytes
  have hml : c.maxLocals = 1 := hml0
  have hown : s.vm.findClass "com/example/strict_credit/strictcredit/diameter/ResultCodeIsProtocolErrorPinLaw" = some m.cls := findClass_of_methodNamed Bd.named
  have hnm := (name_of_methodNamed Bd.named Bd.method).1
  have X0 : Stand p l e ({ frames := 0, cells := 0, slots := 0, locals := 0 } : Room) s m #[(.int (11 : Int32))] below meth c s₁ [] 0 0 := Stand.of_body Bd
  have e0 : s₁.heap = h0 := by rw [← hh, Bd.state]; rfl
  have N0 := Fr.nil n0
  refine Goes.out (Goes.by (fun tz kz => castTop (ef1_I m ((11 : Int32))) kz) ?_)
  show Goes p e below (s₁.setTop (mkF m 0 #[.val (.int (11 : Int32))] [])) _
  refine Goes.by (fun _ kz => XS.iloadN X0.here hx rfl (hb hby d1_0) rfl (XS.ifYes X0.here hx rfl (pc0 := 1) (pc' := 8) rfl (hb hby d1_1) rfl ((if0 _ _).trans (feq (by decide : ¬ ((11 : Int32) = (0 : Int32)))).2) (by decide) (by decide) (XS.iloadN X0.here hx rfl (hb hby d1_8) rfl kz))) ?_
  show Goes p e below (s₁.setTop (mkF m 9 #[.val (.int (11 : Int32))] [(.int (11 : Int32))])) _
  refine Goes.by (fun _ kz => XS.iconst X0.here hx rfl (hb hby d1_9) (XS.icmpYes X0.here hx rfl (pc0 := 10) (pc' := 17) rfl (hb hby d1_10) rfl (feq (by decide : ¬ ((11 : Int32) = (1 : Int32)))).2 (by decide) (by decide) (XS.iloadN X0.here hx rfl (hb hby d1_17) rfl kz))) ?_
  show Goes p e below (s₁.setTop (mkF m 18 #[.val (.int (11 : Int32))] [(.int (11 : Int32))])) _
  refine Goes.by (fun _ kz => XS.iconst X0.here hx rfl (hb hby d1_18) (XS.icmpYes X0.here hx rfl (pc0 := 19) (pc' := 26) rfl (hb hby d1_19) rfl (feq (by decide : ¬ ((11 : Int32) = (2 : Int32)))).2 (by decide) (by decide) (XS.iloadN X0.here hx rfl (hb hby d1_26) rfl kz))) ?_
  show Goes p e below (s₁.setTop (mkF m 27 #[.val (.int (11 : Int32))] [(.int (11 : Int32))])) _
  refine Goes.by (fun _ kz => XS.iconst X0.here hx rfl (hb hby d1_27) (XS.icmpYes X0.here hx rfl (pc0 := 28) (pc' := 35) rfl (hb hby d1_28) rfl (feq (by decide : ¬ ((11 : Int32) = (3 : Int32)))).2 (by decide) (by decide) (XS.iloadN X0.here hx rfl (hb hby d1_35) rfl kz))) ?_
  show Goes p e below (s₁.setTop (mkF m 36 #[.val (.int (11 : Int32))] [(.int (11 : Int32))])) _
  refine Goes.by (fun _ kz => XS.iconst X0.here hx rfl (hb hby d1_36) (XS.icmpYes X0.here hx rfl (pc0 := 37) (pc' := 44) rfl (hb hby d1_37) rfl (feq (by decide : ¬ ((11 : Int32) = (4 : Int32)))).2 (by decide) (by decide) (XS.iloadN X0.here hx rfl (hb hby d1_44) rfl kz))) ?_
  show Goes p e below (s₁.setTop (mkF m 45 #[.val (.int (11 : Int32))] [(.int (11 : Int32))])) _
  refine Goes.by (fun _ kz => XS.iconst X0.here hx rfl (hb hby d1_45) (XS.icmpYes X0.here hx rfl (pc0 := 46) (pc' := 53) rfl (hb hby d1_46) rfl (feq (by decide : ¬ ((11 : Int32) = (5 : Int32)))).2 (by decide) (by decide) (XS.iloadN X0.here hx rfl (hb hby d1_53) rfl kz))) ?_
  show Goes p e below (s₁.setTop (mkF m 54 #[.val (.int (11 : Int32))] [(.int (11 : Int32))])) _
  refine Goes.by (fun _ kz => XS.bipush X0.here hx rfl (hb hby d1_54) (XS.icmpYes X0.here hx rfl (pc0 := 56) (pc' := 63) rfl (hb hby d1_56) rfl (feq (by decide : ¬ ((11 : Int32) = (6 : Int32)))).2 (by decide) (by decide) (XS.iloadN X0.here hx rfl (hb hby d1_63) rfl kz))) ?_
  show Goes p e below (s₁.setTop (mkF m 64 #[.val (.int (11 : Int32))] [(.int (11 : Int32))])) _
  refine Goes.by (fun _ kz => XS.bipush X0.here hx rfl (hb hby d1_64) (XS.icmpYes X0.here hx rfl (pc0 := 66) (pc' := 73) rfl (hb hby d1_66) rfl (feq (by decide : ¬ ((11 : Int32) = (7 : Int32)))).2 (by decide) (by decide) (XS.iloadN X0.here hx rfl (hb hby d1_73) rfl kz))) ?_
  show Goes p e below (s₁.setTop (mkF m 74 #[.val (.int (11 : Int32))] [(.int (11 : Int32))])) _
  refine Goes.by (fun _ kz => XS.bipush X0.here hx rfl (hb hby d1_74) (XS.icmpYes X0.here hx rfl (pc0 := 76) (pc' := 83) rfl (hb hby d1_76) rfl (feq (by decide : ¬ ((11 : Int32) = (8 : Int32)))).2 (by decide) (by decide) (XS.iloadN X0.here hx rfl (hb hby d1_83) rfl kz))) ?_
  show Goes p e below (s₁.setTop (mkF m 84 #[.val (.int (11 : Int32))] [(.int (11 : Int32))])) _
  refine Goes.by (fun _ kz => XS.bipush X0.here hx rfl (hb hby d1_84) (XS.icmpYes X0.here hx rfl (pc0 := 86) (pc' := 93) rfl (hb hby d1_86) rfl (feq (by decide : ¬ ((11 : Int32) = (9 : Int32)))).2 (by decide) (by decide) (XS.iloadN X0.here hx rfl (hb hby d1_93) rfl kz))) ?_
  show Goes p e below (s₁.setTop (mkF m 94 #[.val (.int (11 : Int32))] [(.int (11 : Int32))])) _
  refine Goes.by (fun _ kz => XS.bipush X0.here hx rfl (hb hby d1_94) (XS.icmpYes X0.here hx rfl (pc0 := 96) (pc' := 103) rfl (hb hby d1_96) rfl (feq (by decide : ¬ ((11 : Int32) = (10 : Int32)))).2 (by decide) (by decide) (XS.iloadN X0.here hx rfl (hb hby d1_103) rfl kz))) ?_
  show Goes p e below (s₁.setTop (mkF m 104 #[.val (.int (11 : Int32))] [(.int (11 : Int32))])) _
  refine Goes.by (fun _ kz => XS.bipush X0.here hx rfl (hb hby d1_104) (XS.icmpNo X0.here hx rfl (hb hby d1_106) rfl (teq (by decide : (11 : Int32) = (11 : Int32))).2 kz)) ?_
  obtain ⟨T105, X105, e105, st105⟩ := getS2 X0 hx hZ hown (host := "") (Or.inl (hw _ (List.mem_of_getElem? (i := 30) rfl))) Via.refl e0 P.2.2.2.2.2.2.2.2.2.2.2.2.1 (g := (mkF m 109 #[.val (.int (11 : Int32))] [])) rfl (hb hby d1_109)
  refine Goes.by st105 ?_
  show Goes p e below (T105.setTop (mkF m 112 #[.val (.int (11 : Int32))] [(.ref (w 6))])) _
  obtain ⟨fs, hr, hrun, hended, hW, hsame⟩ := X105.leave (v := some (.ref (w 6))) (fun h => by rw [Bd.returns] at h; cases h)
  exact ⟨_, _, retOut X105 hx (t := (.object "com/example/strict_credit/strictcredit/diameter/ResultCode")) Bd.returns rfl (Or.inr (Or.inr (Or.inr (Or.inr ⟨rfl, rfl, rfl⟩)))) (hb hby d1_112) hr, hrun, hended, _, _, rfl, ⟨rfl, N0, e105⟩, ⟨_, rfl⟩, hW, hsame.mono (by decide) (by decide)⟩
set_option maxRecDepth 65536 in
set_option maxHeartbeats 40000000 in
theorem r2_34 (l : Launch) (Z : State) (a0 : Array Value) (hw : ∀ d ∈ tables_1, d.before a0 Z = true) (ws : List Jvm.Cond) (h0 : Heap) (n0 : Nat) (Z0 : n0 ≤ h0.size) (w : Nat → Addr) (P : Pins Z h0 w) :
    MetFree l (⟨"com/example/strict_credit/strictcredit/diameter/ResultCode", "code", "()I"⟩ : MethodName) (head1 (Jvm.Cond.code (⟨"com/example/strict_credit/strictcredit/diameter/ResultCode", "code", "()I"⟩ : MethodName) prog_39_method_4_code 1 (some .int) :: ws) ({ frames := 0, cells := 0, slots := 0, locals := 0 } : Room)) (fun a U => a = #[(.ref (w 6))] ∧ Z.Warmed39 U.vm ∧ U.heap = h0) (fun _ _ _ _ _ => True) (fun _ U o U' => ∃ v L, o = .returned v ∧ QP (some (.int (5005 : Int32))) h0 n0 v U'.heap L ∧ FrameEnd U o U' L ({ frames := 0, cells := 0, slots := 0, locals := 0 } : Room).cells ({ frames := 0, cells := 0, slots := 0, locals := 0 } : Room).slots) := by
  refine MetFree.of_bodySF (plainFor_of_name pn1) hisR ?_
  intro p e s m args below meth c s₁ Bd hml0 hP hK
  obtain ⟨rfl, hZ, hh⟩ := hP
  have hx := Bd.exec
  have hby := Bd.bytes
  have hml : c.maxLocals = 1 := hml0
  have hown : s.vm.findClass "com/example/strict_credit/strictcredit/diameter/ResultCode" = some m.cls := findClass_of_methodNamed Bd.named
  have hnm := (name_of_methodNamed Bd.named Bd.method).1
  have X0 : Stand p l e ({ frames := 0, cells := 0, slots := 0, locals := 0 } : Room) s m #[(.ref (w 6))] below meth c s₁ [] 0 0 := Stand.of_body Bd
  have e0 : s₁.heap = h0 := by rw [← hh, Bd.state]; rfl
  have N0 := Fr.nil n0
  refine Goes.out (Goes.by (fun tz kz => castTop (ef2_R m ((w 6))) kz) ?_)
  show Goes p e below (s₁.setTop (mkF m 0 #[.val (.ref (w 6))] [])) _
  refine Goes.by (fun _ kz => XS.aloadN X0.here hx rfl (hb hby d2_0) rfl rfl kz) ?_
  obtain ⟨T111, X111, e111, st111⟩ := getF X0 hx hZ hown (host := "") (Or.inl (hw _ (List.mem_of_getElem? (i := 21) rfl))) Via.refl e0 P.2.2.2.2.2.2.2.2.2.2.2.2.2.2.2.2.2.2.2.2.2.2.2.2.2.2.2.2.2.2.2.2.2.2.2.2.2.2.2.2.2.2.2.2.2.2.2.2.2.2.1 (g := (mkF m 1 #[.val (.ref (w 6))] [(.ref (w 6))])) rfl rfl (hb hby d2_1)
  refine Goes.by st111 ?_
  show Goes p e below (T111.setTop (mkF m 4 #[.val (.ref (w 6))] [(.int (5005 : Int32))])) _
  obtain ⟨fs, hr, hrun, hended, hW, hsame⟩ := X111.leave (v := some (.int (5005 : Int32))) (fun h => by rw [Bd.returns] at h; cases h)
  exact ⟨_, _, retOut X111 hx (t := .int) Bd.returns rfl (Or.inl ⟨rfl, Or.inl rfl, _, rfl⟩) (hb hby d2_4) hr, hrun, hended, _, _, rfl, ⟨rfl, N0, e111⟩, ⟨_, rfl⟩, hW, hsame.mono (by decide) (by decide)⟩
set_option maxRecDepth 65536 in
set_option maxHeartbeats 40000000 in
theorem r3_35 (l : Launch) (Z : State) (a0 : Array Value) (hw : ∀ d ∈ tables_1, d.before a0 Z = true) (ws : List Jvm.Cond) (h0 : Heap) (n0 : Nat) (Z0 : n0 ≤ h0.size) (w : Nat → Addr) (P : Pins Z h0 w) :
    MetFree l (⟨"com/example/strict_credit/strictcredit/diameter/ResultCode", "isProtocolError", "()Z"⟩ : MethodName) (head1 (Jvm.Cond.code (⟨"com/example/strict_credit/strictcredit/diameter/ResultCode", "isProtocolError", "()Z"⟩ : MethodName) prog_39_method_6_code 1 (some .boolean) :: ws) ({ frames := 0, cells := 0, slots := 0, locals := 0 } : Room)) (fun a U => a = #[(.ref (w 6))] ∧ Z.Warmed39 U.vm ∧ U.heap = h0) (fun _ _ _ _ _ => True) (fun _ U o U' => ∃ v L, o = .returned v ∧ QP (some (.int (0 : Int32))) h0 n0 v U'.heap L ∧ FrameEnd U o U' L ({ frames := 0, cells := 0, slots := 0, locals := 0 } : Room).cells ({ frames := 0, cells := 0, slots := 0, locals := 0 } : Room).slots) := by
  refine MetFree.of_bodySF (plainFor_of_name pn1) hisR ?_
  intro p e s m args below meth c s₁ Bd hml0 hP hK
  obtain ⟨rfl, hZ, hh⟩ := hP
  have hx := Bd.exec
  have hby := Bd.bytes
  have hml : c.maxLocals = 1 := hml0
  have hown : s.vm.findClass "com/example/strict_credit/strictcredit/diameter/ResultCode" = some m.cls := findClass_of_methodNamed Bd.named
  have hnm := (name_of_methodNamed Bd.named Bd.method).1
  have X0 : Stand p l e ({ frames := 0, cells := 0, slots := 0, locals := 0 } : Room) s m #[(.ref (w 6))] below meth c s₁ [] 0 0 := Stand.of_body Bd
  have e0 : s₁.heap = h0 := by rw [← hh, Bd.state]; rfl
  have N0 := Fr.nil n0
  refine Goes.out (Goes.by (fun tz kz => castTop (ef3_R m ((w 6))) kz) ?_)
  show Goes p e below (s₁.setTop (mkF m 0 #[.val (.ref (w 6))] [])) _
  refine Goes.by (fun _ kz => XS.aloadN X0.here hx rfl (hb hby d3_0) rfl rfl kz) ?_
  obtain ⟨T113, X113, e113, st113⟩ := getF X0 hx hZ hown (host := "") (Or.inl (hw _ (List.mem_of_getElem? (i := 21) rfl))) Via.refl e0 P.2.2.2.2.2.2.2.2.2.2.2.2.2.2.2.2.2.2.2.2.2.2.2.2.2.2.2.2.2.2.2.2.2.2.2.2.2.2.2.2.2.2.2.2.2.2.2.2.2.2.1 (g := (mkF m 1 #[.val (.ref (w 6))] [(.ref (w 6))])) rfl rfl (hb hby d3_1)
  refine Goes.by st113 ?_
  refine Goes.by (fun _ kz => XS.sipush X113.here hx rfl (hb hby d3_4) (XS.idiv X113.here hx rfl (hb hby d3_7) rfl (by decide) kz)) ?_
  show Goes p e below (T113.setTop (mkF m 8 #[.val (.ref (w 6))] [(.int ((5005 : Int32) / (1000 : Int32)))])) _
  rw [show (((5005 : Int32) / (1000 : Int32)) : Int32) = (5 : Int32) from by decide]
  show Goes p e below (T113.setTop (mkF m 8 #[.val (.ref (w 6))] [(.int (5 : Int32))])) _
  refine Goes.by (fun _ kz => XS.iconst X113.here hx rfl (hb hby d3_8) (XS.icmpYes X113.here hx rfl (pc0 := 9) (pc' := 16) rfl (hb hby d3_9) rfl (feq (by decide : ¬ ((5 : Int32) = (3 : Int32)))).2 (by decide) (by decide) (XS.iconst X113.here hx rfl (hb hby d3_16) kz))) ?_
  show Goes p e below (T113.setTop (mkF m 17 #[.val (.ref (w 6))] [(.int (0 : Int32))])) _
  obtain ⟨fs, hr, hrun, hended, hW, hsame⟩ := X113.leave (v := some (.int (0 : Int32))) (fun h => by rw [Bd.returns] at h; cases h)
  exact ⟨_, _, retN X113 hx (t := .boolean) Bd.returns (by simp) (hb hby d3_17) hr, hrun, hended, _, _, rfl, ⟨rfl, N0, e113⟩, ⟨_, rfl⟩, hW, hsame.mono (by decide) (by decide)⟩
set_option maxRecDepth 65536 in
set_option maxHeartbeats 40000000 in
theorem r1_36 (l : Launch) (Z : State) (a0 : Array Value) (hw : ∀ d ∈ tables_1, d.before a0 Z = true) (ws : List Jvm.Cond) (h0 : Heap) (n0 : Nat) (Z0 : n0 ≤ h0.size) (w : Nat → Addr) (P : Pins Z h0 w) :
    MetFree l (⟨"com/example/strict_credit/strictcredit/diameter/ResultCodeIsProtocolErrorPinLaw", "pick", "(I)Lcom/example/strict_credit/strictcredit/diameter/ResultCode;"⟩ : MethodName) (head1 (Jvm.Cond.code (⟨"com/example/strict_credit/strictcredit/diameter/ResultCodeIsProtocolErrorPinLaw", "pick", "(I)Lcom/example/strict_credit/strictcredit/diameter/ResultCode;"⟩ : MethodName) method_2_code 1 (some (.object "com/example/strict_credit/strictcredit/diameter/ResultCode")) :: ws) ({ frames := 0, cells := 0, slots := 0, locals := 0 } : Room)) (fun a U => a = #[(.int (12 : Int32))] ∧ Z.Warmed39 U.vm ∧ U.heap = h0) (fun _ _ _ _ _ => True) (fun _ U o U' => ∃ v L, o = .returned v ∧ QP (some (.ref (w 16))) h0 n0 v U'.heap L ∧ FrameEnd U o U' L ({ frames := 0, cells := 0, slots := 0, locals := 0 } : Room).cells ({ frames := 0, cells := 0, slots := 0, locals := 0 } : Room).slots) := by
  refine MetFree.of_bodySF (plainFor_of_name pn0) hisR ?_
  intro p e s m args below meth c s₁ Bd hml0 hP hK
  obtain ⟨rfl, hZ, hh⟩ := hP
  have hx := Bd.exec
  have hby := Bd.bytes
  have hml : c.maxLocals = 1 := hml0
  have hown : s.vm.findClass "com/example/strict_credit/strictcredit/diameter/ResultCodeIsProtocolErrorPinLaw" = some m.cls := findClass_of_methodNamed Bd.named
  have hnm := (name_of_methodNamed Bd.named Bd.method).1
  have X0 : Stand p l e ({ frames := 0, cells := 0, slots := 0, locals := 0 } : Room) s m #[(.int (12 : Int32))] below meth c s₁ [] 0 0 := Stand.of_body Bd
  have e0 : s₁.heap = h0 := by rw [← hh, Bd.state]; rfl
  have N0 := Fr.nil n0
  refine Goes.out (Goes.by (fun tz kz => castTop (ef1_I m ((12 : Int32))) kz) ?_)
  show Goes p e below (s₁.setTop (mkF m 0 #[.val (.int (12 : Int32))] [])) _
  refine Goes.by (fun _ kz => XS.iloadN X0.here hx rfl (hb hby d1_0) rfl (XS.ifYes X0.here hx rfl (pc0 := 1) (pc' := 8) rfl (hb hby d1_1) rfl ((if0 _ _).trans (feq (by decide : ¬ ((12 : Int32) = (0 : Int32)))).2) (by decide) (by decide) (XS.iloadN X0.here hx rfl (hb hby d1_8) rfl kz))) ?_
  show Goes p e below (s₁.setTop (mkF m 9 #[.val (.int (12 : Int32))] [(.int (12 : Int32))])) _
  refine Goes.by (fun _ kz => XS.iconst X0.here hx rfl (hb hby d1_9) (XS.icmpYes X0.here hx rfl (pc0 := 10) (pc' := 17) rfl (hb hby d1_10) rfl (feq (by decide : ¬ ((12 : Int32) = (1 : Int32)))).2 (by decide) (by decide) (XS.iloadN X0.here hx rfl (hb hby d1_17) rfl kz))) ?_
  show Goes p e below (s₁.setTop (mkF m 18 #[.val (.int (12 : Int32))] [(.int (12 : Int32))])) _
  refine Goes.by (fun _ kz => XS.iconst X0.here hx rfl (hb hby d1_18) (XS.icmpYes X0.here hx rfl (pc0 := 19) (pc' := 26) rfl (hb hby d1_19) rfl (feq (by decide : ¬ ((12 : Int32) = (2 : Int32)))).2 (by decide) (by decide) (XS.iloadN X0.here hx rfl (hb hby d1_26) rfl kz))) ?_
  show Goes p e below (s₁.setTop (mkF m 27 #[.val (.int (12 : Int32))] [(.int (12 : Int32))])) _
  refine Goes.by (fun _ kz => XS.iconst X0.here hx rfl (hb hby d1_27) (XS.icmpYes X0.here hx rfl (pc0 := 28) (pc' := 35) rfl (hb hby d1_28) rfl (feq (by decide : ¬ ((12 : Int32) = (3 : Int32)))).2 (by decide) (by decide) (XS.iloadN X0.here hx rfl (hb hby d1_35) rfl kz))) ?_
  show Goes p e below (s₁.setTop (mkF m 36 #[.val (.int (12 : Int32))] [(.int (12 : Int32))])) _
  refine Goes.by (fun _ kz => XS.iconst X0.here hx rfl (hb hby d1_36) (XS.icmpYes X0.here hx rfl (pc0 := 37) (pc' := 44) rfl (hb hby d1_37) rfl (feq (by decide : ¬ ((12 : Int32) = (4 : Int32)))).2 (by decide) (by decide) (XS.iloadN X0.here hx rfl (hb hby d1_44) rfl kz))) ?_
  show Goes p e below (s₁.setTop (mkF m 45 #[.val (.int (12 : Int32))] [(.int (12 : Int32))])) _
  refine Goes.by (fun _ kz => XS.iconst X0.here hx rfl (hb hby d1_45) (XS.icmpYes X0.here hx rfl (pc0 := 46) (pc' := 53) rfl (hb hby d1_46) rfl (feq (by decide : ¬ ((12 : Int32) = (5 : Int32)))).2 (by decide) (by decide) (XS.iloadN X0.here hx rfl (hb hby d1_53) rfl kz))) ?_
  show Goes p e below (s₁.setTop (mkF m 54 #[.val (.int (12 : Int32))] [(.int (12 : Int32))])) _
  refine Goes.by (fun _ kz => XS.bipush X0.here hx rfl (hb hby d1_54) (XS.icmpYes X0.here hx rfl (pc0 := 56) (pc' := 63) rfl (hb hby d1_56) rfl (feq (by decide : ¬ ((12 : Int32) = (6 : Int32)))).2 (by decide) (by decide) (XS.iloadN X0.here hx rfl (hb hby d1_63) rfl kz))) ?_
  show Goes p e below (s₁.setTop (mkF m 64 #[.val (.int (12 : Int32))] [(.int (12 : Int32))])) _
  refine Goes.by (fun _ kz => XS.bipush X0.here hx rfl (hb hby d1_64) (XS.icmpYes X0.here hx rfl (pc0 := 66) (pc' := 73) rfl (hb hby d1_66) rfl (feq (by decide : ¬ ((12 : Int32) = (7 : Int32)))).2 (by decide) (by decide) (XS.iloadN X0.here hx rfl (hb hby d1_73) rfl kz))) ?_
  show Goes p e below (s₁.setTop (mkF m 74 #[.val (.int (12 : Int32))] [(.int (12 : Int32))])) _
  refine Goes.by (fun _ kz => XS.bipush X0.here hx rfl (hb hby d1_74) (XS.icmpYes X0.here hx rfl (pc0 := 76) (pc' := 83) rfl (hb hby d1_76) rfl (feq (by decide : ¬ ((12 : Int32) = (8 : Int32)))).2 (by decide) (by decide) (XS.iloadN X0.here hx rfl (hb hby d1_83) rfl kz))) ?_
  show Goes p e below (s₁.setTop (mkF m 84 #[.val (.int (12 : Int32))] [(.int (12 : Int32))])) _
  refine Goes.by (fun _ kz => XS.bipush X0.here hx rfl (hb hby d1_84) (XS.icmpYes X0.here hx rfl (pc0 := 86) (pc' := 93) rfl (hb hby d1_86) rfl (feq (by decide : ¬ ((12 : Int32) = (9 : Int32)))).2 (by decide) (by decide) (XS.iloadN X0.here hx rfl (hb hby d1_93) rfl kz))) ?_
  show Goes p e below (s₁.setTop (mkF m 94 #[.val (.int (12 : Int32))] [(.int (12 : Int32))])) _
  refine Goes.by (fun _ kz => XS.bipush X0.here hx rfl (hb hby d1_94) (XS.icmpYes X0.here hx rfl (pc0 := 96) (pc' := 103) rfl (hb hby d1_96) rfl (feq (by decide : ¬ ((12 : Int32) = (10 : Int32)))).2 (by decide) (by decide) (XS.iloadN X0.here hx rfl (hb hby d1_103) rfl kz))) ?_
  show Goes p e below (s₁.setTop (mkF m 104 #[.val (.int (12 : Int32))] [(.int (12 : Int32))])) _
  refine Goes.by (fun _ kz => XS.bipush X0.here hx rfl (hb hby d1_104) (XS.icmpYes X0.here hx rfl (pc0 := 106) (pc' := 113) rfl (hb hby d1_106) rfl (feq (by decide : ¬ ((12 : Int32) = (11 : Int32)))).2 (by decide) (by decide) (XS.iloadN X0.here hx rfl (hb hby d1_113) rfl kz))) ?_
  show Goes p e below (s₁.setTop (mkF m 114 #[.val (.int (12 : Int32))] [(.int (12 : Int32))])) _
  refine Goes.by (fun _ kz => XS.bipush X0.here hx rfl (hb hby d1_114) (XS.icmpNo X0.here hx rfl (hb hby d1_116) rfl (teq (by decide : (12 : Int32) = (12 : Int32))).2 kz)) ?_
  obtain ⟨T115, X115, e115, st115⟩ := getS2 X0 hx hZ hown (host := "") (Or.inl (hw _ (List.mem_of_getElem? (i := 50) rfl))) Via.refl e0 P.2.2.2.2.2.2.2.2.2.2.2.2.2.2.2.2.2.2.2.2.2.2.2.2.2.2.2.2.2.2.2.2.1 (g := (mkF m 119 #[.val (.int (12 : Int32))] [])) rfl (hb hby d1_119)
  refine Goes.by st115 ?_
  show Goes p e below (T115.setTop (mkF m 122 #[.val (.int (12 : Int32))] [(.ref (w 16))])) _
  obtain ⟨fs, hr, hrun, hended, hW, hsame⟩ := X115.leave (v := some (.ref (w 16))) (fun h => by rw [Bd.returns] at h; cases h)
  exact ⟨_, _, retOut X115 hx (t := (.object "com/example/strict_credit/strictcredit/diameter/ResultCode")) Bd.returns rfl (Or.inr (Or.inr (Or.inr (Or.inr ⟨rfl, rfl, rfl⟩)))) (hb hby d1_122) hr, hrun, hended, _, _, rfl, ⟨rfl, N0, e115⟩, ⟨_, rfl⟩, hW, hsame.mono (by decide) (by decide)⟩
set_option maxRecDepth 65536 in
set_option maxHeartbeats 40000000 in
theorem r2_37 (l : Launch) (Z : State) (a0 : Array Value) (hw : ∀ d ∈ tables_1, d.before a0 Z = true) (ws : List Jvm.Cond) (h0 : Heap) (n0 : Nat) (Z0 : n0 ≤ h0.size) (w : Nat → Addr) (P : Pins Z h0 w) :
    MetFree l (⟨"com/example/strict_credit/strictcredit/diameter/ResultCode", "code", "()I"⟩ : MethodName) (head1 (Jvm.Cond.code (⟨"com/example/strict_credit/strictcredit/diameter/ResultCode", "code", "()I"⟩ : MethodName) prog_39_method_4_code 1 (some .int) :: ws) ({ frames := 0, cells := 0, slots := 0, locals := 0 } : Room)) (fun a U => a = #[(.ref (w 16))] ∧ Z.Warmed39 U.vm ∧ U.heap = h0) (fun _ _ _ _ _ => True) (fun _ U o U' => ∃ v L, o = .returned v ∧ QP (some (.int (5009 : Int32))) h0 n0 v U'.heap L ∧ FrameEnd U o U' L ({ frames := 0, cells := 0, slots := 0, locals := 0 } : Room).cells ({ frames := 0, cells := 0, slots := 0, locals := 0 } : Room).slots) := by
  refine MetFree.of_bodySF (plainFor_of_name pn1) hisR ?_
  intro p e s m args below meth c s₁ Bd hml0 hP hK
  obtain ⟨rfl, hZ, hh⟩ := hP
  have hx := Bd.exec
  have hby := Bd.bytes
  have hml : c.maxLocals = 1 := hml0
  have hown : s.vm.findClass "com/example/strict_credit/strictcredit/diameter/ResultCode" = some m.cls := findClass_of_methodNamed Bd.named
  have hnm := (name_of_methodNamed Bd.named Bd.method).1
  have X0 : Stand p l e ({ frames := 0, cells := 0, slots := 0, locals := 0 } : Room) s m #[(.ref (w 16))] below meth c s₁ [] 0 0 := Stand.of_body Bd
  have e0 : s₁.heap = h0 := by rw [← hh, Bd.state]; rfl
  have N0 := Fr.nil n0
  refine Goes.out (Goes.by (fun tz kz => castTop (ef2_R m ((w 16))) kz) ?_)
  show Goes p e below (s₁.setTop (mkF m 0 #[.val (.ref (w 16))] [])) _
  refine Goes.by (fun _ kz => XS.aloadN X0.here hx rfl (hb hby d2_0) rfl rfl kz) ?_
  obtain ⟨T121, X121, e121, st121⟩ := getF X0 hx hZ hown (host := "") (Or.inl (hw _ (List.mem_of_getElem? (i := 21) rfl))) Via.refl e0 P.2.2.2.2.2.2.2.2.2.2.2.2.2.2.2.2.2.2.2.2.2.2.2.2.2.2.2.2.2.2.2.2.2.2.2.2.2.2.2.2.2.2.2.2.2.2.2.2.2.2.2.2.2.2.2.2.2.2.2.2.2.2.2.2.2.2.2.2.2.2.2.1 (g := (mkF m 1 #[.val (.ref (w 16))] [(.ref (w 16))])) rfl rfl (hb hby d2_1)
  refine Goes.by st121 ?_
  show Goes p e below (T121.setTop (mkF m 4 #[.val (.ref (w 16))] [(.int (5009 : Int32))])) _
  obtain ⟨fs, hr, hrun, hended, hW, hsame⟩ := X121.leave (v := some (.int (5009 : Int32))) (fun h => by rw [Bd.returns] at h; cases h)
  exact ⟨_, _, retOut X121 hx (t := .int) Bd.returns rfl (Or.inl ⟨rfl, Or.inl rfl, _, rfl⟩) (hb hby d2_4) hr, hrun, hended, _, _, rfl, ⟨rfl, N0, e121⟩, ⟨_, rfl⟩, hW, hsame.mono (by decide) (by decide)⟩
set_option maxRecDepth 65536 in
set_option maxHeartbeats 40000000 in
theorem r3_38 (l : Launch) (Z : State) (a0 : Array Value) (hw : ∀ d ∈ tables_1, d.before a0 Z = true) (ws : List Jvm.Cond) (h0 : Heap) (n0 : Nat) (Z0 : n0 ≤ h0.size) (w : Nat → Addr) (P : Pins Z h0 w) :
    MetFree l (⟨"com/example/strict_credit/strictcredit/diameter/ResultCode", "isProtocolError", "()Z"⟩ : MethodName) (head1 (Jvm.Cond.code (⟨"com/example/strict_credit/strictcredit/diameter/ResultCode", "isProtocolError", "()Z"⟩ : MethodName) prog_39_method_6_code 1 (some .boolean) :: ws) ({ frames := 0, cells := 0, slots := 0, locals := 0 } : Room)) (fun a U => a = #[(.ref (w 16))] ∧ Z.Warmed39 U.vm ∧ U.heap = h0) (fun _ _ _ _ _ => True) (fun _ U o U' => ∃ v L, o = .returned v ∧ QP (some (.int (0 : Int32))) h0 n0 v U'.heap L ∧ FrameEnd U o U' L ({ frames := 0, cells := 0, slots := 0, locals := 0 } : Room).cells ({ frames := 0, cells := 0, slots := 0, locals := 0 } : Room).slots) := by
  refine MetFree.of_bodySF (plainFor_of_name pn1) hisR ?_
  intro p e s m args below meth c s₁ Bd hml0 hP hK
  obtain ⟨rfl, hZ, hh⟩ := hP
  have hx := Bd.exec
  have hby := Bd.bytes
  have hml : c.maxLocals = 1 := hml0
  have hown : s.vm.findClass "com/example/strict_credit/strictcredit/diameter/ResultCode" = some m.cls := findClass_of_methodNamed Bd.named
  have hnm := (name_of_methodNamed Bd.named Bd.method).1
  have X0 : Stand p l e ({ frames := 0, cells := 0, slots := 0, locals := 0 } : Room) s m #[(.ref (w 16))] below meth c s₁ [] 0 0 := Stand.of_body Bd
  have e0 : s₁.heap = h0 := by rw [← hh, Bd.state]; rfl
  have N0 := Fr.nil n0
  refine Goes.out (Goes.by (fun tz kz => castTop (ef3_R m ((w 16))) kz) ?_)
  show Goes p e below (s₁.setTop (mkF m 0 #[.val (.ref (w 16))] [])) _
  refine Goes.by (fun _ kz => XS.aloadN X0.here hx rfl (hb hby d3_0) rfl rfl kz) ?_
  obtain ⟨T123, X123, e123, st123⟩ := getF X0 hx hZ hown (host := "") (Or.inl (hw _ (List.mem_of_getElem? (i := 21) rfl))) Via.refl e0 P.2.2.2.2.2.2.2.2.2.2.2.2.2.2.2.2.2.2.2.2.2.2.2.2.2.2.2.2.2.2.2.2.2.2.2.2.2.2.2.2.2.2.2.2.2.2.2.2.2.2.2.2.2.2.2.2.2.2.2.2.2.2.2.2.2.2.2.2.2.2.2.1 (g := (mkF m 1 #[.val (.ref (w 16))] [(.ref (w 16))])) rfl rfl (hb hby d3_1)
  refine Goes.by st123 ?_
  refine Goes.by (fun _ kz => XS.sipush X123.here hx rfl (hb hby d3_4) (XS.idiv X123.here hx rfl (hb hby d3_7) rfl (by decide) kz)) ?_
  show Goes p e below (T123.setTop (mkF m 8 #[.val (.ref (w 16))] [(.int ((5009 : Int32) / (1000 : Int32)))])) _
  rw [show (((5009 : Int32) / (1000 : Int32)) : Int32) = (5 : Int32) from by decide]
  show Goes p e below (T123.setTop (mkF m 8 #[.val (.ref (w 16))] [(.int (5 : Int32))])) _
  refine Goes.by (fun _ kz => XS.iconst X123.here hx rfl (hb hby d3_8) (XS.icmpYes X123.here hx rfl (pc0 := 9) (pc' := 16) rfl (hb hby d3_9) rfl (feq (by decide : ¬ ((5 : Int32) = (3 : Int32)))).2 (by decide) (by decide) (XS.iconst X123.here hx rfl (hb hby d3_16) kz))) ?_
  show Goes p e below (T123.setTop (mkF m 17 #[.val (.ref (w 16))] [(.int (0 : Int32))])) _
  obtain ⟨fs, hr, hrun, hended, hW, hsame⟩ := X123.leave (v := some (.int (0 : Int32))) (fun h => by rw [Bd.returns] at h; cases h)
  exact ⟨_, _, retN X123 hx (t := .boolean) Bd.returns (by simp) (hb hby d3_17) hr, hrun, hended, _, _, rfl, ⟨rfl, N0, e123⟩, ⟨_, rfl⟩, hW, hsame.mono (by decide) (by decide)⟩
set_option maxRecDepth 65536 in
set_option maxHeartbeats 40000000 in
theorem r1_39 (l : Launch) (Z : State) (a0 : Array Value) (hw : ∀ d ∈ tables_1, d.before a0 Z = true) (ws : List Jvm.Cond) (h0 : Heap) (n0 : Nat) (Z0 : n0 ≤ h0.size) (w : Nat → Addr) (P : Pins Z h0 w) :
    MetFree l (⟨"com/example/strict_credit/strictcredit/diameter/ResultCodeIsProtocolErrorPinLaw", "pick", "(I)Lcom/example/strict_credit/strictcredit/diameter/ResultCode;"⟩ : MethodName) (head1 (Jvm.Cond.code (⟨"com/example/strict_credit/strictcredit/diameter/ResultCodeIsProtocolErrorPinLaw", "pick", "(I)Lcom/example/strict_credit/strictcredit/diameter/ResultCode;"⟩ : MethodName) method_2_code 1 (some (.object "com/example/strict_credit/strictcredit/diameter/ResultCode")) :: ws) ({ frames := 0, cells := 0, slots := 0, locals := 0 } : Room)) (fun a U => a = #[(.int (13 : Int32))] ∧ Z.Warmed39 U.vm ∧ U.heap = h0) (fun _ _ _ _ _ => True) (fun _ U o U' => ∃ v L, o = .returned v ∧ QP (some (.ref (w 18))) h0 n0 v U'.heap L ∧ FrameEnd U o U' L ({ frames := 0, cells := 0, slots := 0, locals := 0 } : Room).cells ({ frames := 0, cells := 0, slots := 0, locals := 0 } : Room).slots) := by
  refine MetFree.of_bodySF (plainFor_of_name pn0) hisR ?_
  intro p e s m args below meth c s₁ Bd hml0 hP hK
  obtain ⟨rfl, hZ, hh⟩ := hP
  have hx := Bd.exec
  have hby := Bd.bytes
  have hml : c.maxLocals = 1 := hml0
  have hown : s.vm.findClass "com/example/strict_credit/strictcredit/diameter/ResultCodeIsProtocolErrorPinLaw" = some m.cls := findClass_of_methodNamed Bd.named
  have hnm := (name_of_methodNamed Bd.named Bd.method).1
  have X0 : Stand p l e ({ frames := 0, cells := 0, slots := 0, locals := 0 } : Room) s m #[(.int (13 : Int32))] below meth c s₁ [] 0 0 := Stand.of_body Bd
  have e0 : s₁.heap = h0 := by rw [← hh, Bd.state]; rfl
  have N0 := Fr.nil n0
  refine Goes.out (Goes.by (fun tz kz => castTop (ef1_I m ((13 : Int32))) kz) ?_)
  show Goes p e below (s₁.setTop (mkF m 0 #[.val (.int (13 : Int32))] [])) _
  refine Goes.by (fun _ kz => XS.iloadN X0.here hx rfl (hb hby d1_0) rfl (XS.ifYes X0.here hx rfl (pc0 := 1) (pc' := 8) rfl (hb hby d1_1) rfl ((if0 _ _).trans (feq (by decide : ¬ ((13 : Int32) = (0 : Int32)))).2) (by decide) (by decide) (XS.iloadN X0.here hx rfl (hb hby d1_8) rfl kz))) ?_
  show Goes p e below (s₁.setTop (mkF m 9 #[.val (.int (13 : Int32))] [(.int (13 : Int32))])) _
  refine Goes.by (fun _ kz => XS.iconst X0.here hx rfl (hb hby d1_9) (XS.icmpYes X0.here hx rfl (pc0 := 10) (pc' := 17) rfl (hb hby d1_10) rfl (feq (by decide : ¬ ((13 : Int32) = (1 : Int32)))).2 (by decide) (by decide) (XS.iloadN X0.here hx rfl (hb hby d1_17) rfl kz))) ?_
  show Goes p e below (s₁.setTop (mkF m 18 #[.val (.int (13 : Int32))] [(.int (13 : Int32))])) _
  refine Goes.by (fun _ kz => XS.iconst X0.here hx rfl (hb hby d1_18) (XS.icmpYes X0.here hx rfl (pc0 := 19) (pc' := 26) rfl (hb hby d1_19) rfl (feq (by decide : ¬ ((13 : Int32) = (2 : Int32)))).2 (by decide) (by decide) (XS.iloadN X0.here hx rfl (hb hby d1_26) rfl kz))) ?_
  show Goes p e below (s₁.setTop (mkF m 27 #[.val (.int (13 : Int32))] [(.int (13 : Int32))])) _
  refine Goes.by (fun _ kz => XS.iconst X0.here hx rfl (hb hby d1_27) (XS.icmpYes X0.here hx rfl (pc0 := 28) (pc' := 35) rfl (hb hby d1_28) rfl (feq (by decide : ¬ ((13 : Int32) = (3 : Int32)))).2 (by decide) (by decide) (XS.iloadN X0.here hx rfl (hb hby d1_35) rfl kz))) ?_
  show Goes p e below (s₁.setTop (mkF m 36 #[.val (.int (13 : Int32))] [(.int (13 : Int32))])) _
  refine Goes.by (fun _ kz => XS.iconst X0.here hx rfl (hb hby d1_36) (XS.icmpYes X0.here hx rfl (pc0 := 37) (pc' := 44) rfl (hb hby d1_37) rfl (feq (by decide : ¬ ((13 : Int32) = (4 : Int32)))).2 (by decide) (by decide) (XS.iloadN X0.here hx rfl (hb hby d1_44) rfl kz))) ?_
  show Goes p e below (s₁.setTop (mkF m 45 #[.val (.int (13 : Int32))] [(.int (13 : Int32))])) _
  refine Goes.by (fun _ kz => XS.iconst X0.here hx rfl (hb hby d1_45) (XS.icmpYes X0.here hx rfl (pc0 := 46) (pc' := 53) rfl (hb hby d1_46) rfl (feq (by decide : ¬ ((13 : Int32) = (5 : Int32)))).2 (by decide) (by decide) (XS.iloadN X0.here hx rfl (hb hby d1_53) rfl kz))) ?_
  show Goes p e below (s₁.setTop (mkF m 54 #[.val (.int (13 : Int32))] [(.int (13 : Int32))])) _
  refine Goes.by (fun _ kz => XS.bipush X0.here hx rfl (hb hby d1_54) (XS.icmpYes X0.here hx rfl (pc0 := 56) (pc' := 63) rfl (hb hby d1_56) rfl (feq (by decide : ¬ ((13 : Int32) = (6 : Int32)))).2 (by decide) (by decide) (XS.iloadN X0.here hx rfl (hb hby d1_63) rfl kz))) ?_
  show Goes p e below (s₁.setTop (mkF m 64 #[.val (.int (13 : Int32))] [(.int (13 : Int32))])) _
  refine Goes.by (fun _ kz => XS.bipush X0.here hx rfl (hb hby d1_64) (XS.icmpYes X0.here hx rfl (pc0 := 66) (pc' := 73) rfl (hb hby d1_66) rfl (feq (by decide : ¬ ((13 : Int32) = (7 : Int32)))).2 (by decide) (by decide) (XS.iloadN X0.here hx rfl (hb hby d1_73) rfl kz))) ?_
  show Goes p e below (s₁.setTop (mkF m 74 #[.val (.int (13 : Int32))] [(.int (13 : Int32))])) _
  refine Goes.by (fun _ kz => XS.bipush X0.here hx rfl (hb hby d1_74) (XS.icmpYes X0.here hx rfl (pc0 := 76) (pc' := 83) rfl (hb hby d1_76) rfl (feq (by decide : ¬ ((13 : Int32) = (8 : Int32)))).2 (by decide) (by decide) (XS.iloadN X0.here hx rfl (hb hby d1_83) rfl kz))) ?_
  show Goes p e below (s₁.setTop (mkF m 84 #[.val (.int (13 : Int32))] [(.int (13 : Int32))])) _
  refine Goes.by (fun _ kz => XS.bipush X0.here hx rfl (hb hby d1_84) (XS.icmpYes X0.here hx rfl (pc0 := 86) (pc' := 93) rfl (hb hby d1_86) rfl (feq (by decide : ¬ ((13 : Int32) = (9 : Int32)))).2 (by decide) (by decide) (XS.iloadN X0.here hx rfl (hb hby d1_93) rfl kz))) ?_
  show Goes p e below (s₁.setTop (mkF m 94 #[.val (.int (13 : Int32))] [(.int (13 : Int32))])) _
  refine Goes.by (fun _ kz => XS.bipush X0.here hx rfl (hb hby d1_94) (XS.icmpYes X0.here hx rfl (pc0 := 96) (pc' := 103) rfl (hb hby d1_96) rfl (feq (by decide : ¬ ((13 : Int32) = (10 : Int32)))).2 (by decide) (by decide) (XS.iloadN X0.here hx rfl (hb hby d1_103) rfl kz))) ?_
  show Goes p e below (s₁.setTop (mkF m 104 #[.val (.int (13 : Int32))] [(.int (13 : Int32))])) _
  refine Goes.by (fun _ kz => XS.bipush X0.here hx rfl (hb hby d1_104) (XS.icmpYes X0.here hx rfl (pc0 := 106) (pc' := 113) rfl (hb hby d1_106) rfl (feq (by decide : ¬ ((13 : Int32) = (11 : Int32)))).2 (by decide) (by decide) (XS.iloadN X0.here hx rfl (hb hby d1_113) rfl kz))) ?_
  show Goes p e below (s₁.setTop (mkF m 114 #[.val (.int (13 : Int32))] [(.int (13 : Int32))])) _
  refine Goes.by (fun _ kz => XS.bipush X0.here hx rfl (hb hby d1_114) (XS.icmpYes X0.here hx rfl (pc0 := 116) (pc' := 123) rfl (hb hby d1_116) rfl (feq (by decide : ¬ ((13 : Int32) = (12 : Int32)))).2 (by decide) (by decide) (XS.iloadN X0.here hx rfl (hb hby d1_123) rfl kz))) ?_
  show Goes p e below (s₁.setTop (mkF m 124 #[.val (.int (13 : Int32))] [(.int (13 : Int32))])) _
  refine Goes.by (fun _ kz => XS.bipush X0.here hx rfl (hb hby d1_124) (XS.icmpNo X0.here hx rfl (hb hby d1_126) rfl (teq (by decide : (13 : Int32) = (13 : Int32))).2 kz)) ?_
  obtain ⟨T125, X125, e125, st125⟩ := getS2 X0 hx hZ hown (host := "") (Or.inl (hw _ (List.mem_of_getElem? (i := 54) rfl))) Via.refl e0 P.2.2.2.2.2.2.2.2.2.2.2.2.2.2.2.2.2.2.2.2.2.2.2.2.2.2.2.2.2.2.2.2.2.2.2.2.1 (g := (mkF m 129 #[.val (.int (13 : Int32))] [])) rfl (hb hby d1_129)
  refine Goes.by st125 ?_
  show Goes p e below (T125.setTop (mkF m 132 #[.val (.int (13 : Int32))] [(.ref (w 18))])) _
  obtain ⟨fs, hr, hrun, hended, hW, hsame⟩ := X125.leave (v := some (.ref (w 18))) (fun h => by rw [Bd.returns] at h; cases h)
  exact ⟨_, _, retOut X125 hx (t := (.object "com/example/strict_credit/strictcredit/diameter/ResultCode")) Bd.returns rfl (Or.inr (Or.inr (Or.inr (Or.inr ⟨rfl, rfl, rfl⟩)))) (hb hby d1_132) hr, hrun, hended, _, _, rfl, ⟨rfl, N0, e125⟩, ⟨_, rfl⟩, hW, hsame.mono (by decide) (by decide)⟩
set_option maxRecDepth 65536 in
set_option maxHeartbeats 40000000 in
theorem r2_40 (l : Launch) (Z : State) (a0 : Array Value) (hw : ∀ d ∈ tables_1, d.before a0 Z = true) (ws : List Jvm.Cond) (h0 : Heap) (n0 : Nat) (Z0 : n0 ≤ h0.size) (w : Nat → Addr) (P : Pins Z h0 w) :
    MetFree l (⟨"com/example/strict_credit/strictcredit/diameter/ResultCode", "code", "()I"⟩ : MethodName) (head1 (Jvm.Cond.code (⟨"com/example/strict_credit/strictcredit/diameter/ResultCode", "code", "()I"⟩ : MethodName) prog_39_method_4_code 1 (some .int) :: ws) ({ frames := 0, cells := 0, slots := 0, locals := 0 } : Room)) (fun a U => a = #[(.ref (w 18))] ∧ Z.Warmed39 U.vm ∧ U.heap = h0) (fun _ _ _ _ _ => True) (fun _ U o U' => ∃ v L, o = .returned v ∧ QP (some (.int (5010 : Int32))) h0 n0 v U'.heap L ∧ FrameEnd U o U' L ({ frames := 0, cells := 0, slots := 0, locals := 0 } : Room).cells ({ frames := 0, cells := 0, slots := 0, locals := 0 } : Room).slots) := by
  refine MetFree.of_bodySF (plainFor_of_name pn1) hisR ?_
  intro p e s m args below meth c s₁ Bd hml0 hP hK
  obtain ⟨rfl, hZ, hh⟩ := hP
  have hx := Bd.exec
  have hby := Bd.bytes
  have hml : c.maxLocals = 1 := hml0
  have hown : s.vm.findClass "com/example/strict_credit/strictcredit/diameter/ResultCode" = some m.cls := findClass_of_methodNamed Bd.named
  have hnm := (name_of_methodNamed Bd.named Bd.method).1
  have X0 : Stand p l e ({ frames := 0, cells := 0, slots := 0, locals := 0 } : Room) s m #[(.ref (w 18))] below meth c s₁ [] 0 0 := Stand.of_body Bd
  have e0 : s₁.heap = h0 := by rw [← hh, Bd.state]; rfl
  have N0 := Fr.nil n0
  refine Goes.out (Goes.by (fun tz kz => castTop (ef2_R m ((w 18))) kz) ?_)
  show Goes p e below (s₁.setTop (mkF m 0 #[.val (.ref (w 18))] [])) _
  refine Goes.by (fun _ kz => XS.aloadN X0.here hx rfl (hb hby d2_0) rfl rfl kz) ?_
  obtain ⟨T131, X131, e131, st131⟩ := getF X0 hx hZ hown (host := "") (Or.inl (hw _ (List.mem_of_getElem? (i := 21) rfl))) Via.refl e0 P.2.2.2.2.2.2.2.2.2.2.2.2.2.2.2.2.2.2.2.2.2.2.2.2.2.2.2.2.2.2.2.2.2.2.2.2.2.2.2.2.2.2.2.2.2.2.2.2.2.2.2.2.2.2.2.2.2.2.2.2.2.2.2.2.2.2.2.2.2.2.2.2.2.2.2.2.2.1 (g := (mkF m 1 #[.val (.ref (w 18))] [(.ref (w 18))])) rfl rfl (hb hby d2_1)
  refine Goes.by st131 ?_
  show Goes p e below (T131.setTop (mkF m 4 #[.val (.ref (w 18))] [(.int (5010 : Int32))])) _
  obtain ⟨fs, hr, hrun, hended, hW, hsame⟩ := X131.leave (v := some (.int (5010 : Int32))) (fun h => by rw [Bd.returns] at h; cases h)
  exact ⟨_, _, retOut X131 hx (t := .int) Bd.returns rfl (Or.inl ⟨rfl, Or.inl rfl, _, rfl⟩) (hb hby d2_4) hr, hrun, hended, _, _, rfl, ⟨rfl, N0, e131⟩, ⟨_, rfl⟩, hW, hsame.mono (by decide) (by decide)⟩
set_option maxRecDepth 65536 in
set_option maxHeartbeats 40000000 in
theorem r3_41 (l : Launch) (Z : State) (a0 : Array Value) (hw : ∀ d ∈ tables_1, d.before a0 Z = true) (ws : List Jvm.Cond) (h0 : Heap) (n0 : Nat) (Z0 : n0 ≤ h0.size) (w : Nat → Addr) (P : Pins Z h0 w) :
    MetFree l (⟨"com/example/strict_credit/strictcredit/diameter/ResultCode", "isProtocolError", "()Z"⟩ : MethodName) (head1 (Jvm.Cond.code (⟨"com/example/strict_credit/strictcredit/diameter/ResultCode", "isProtocolError", "()Z"⟩ : MethodName) prog_39_method_6_code 1 (some .boolean) :: ws) ({ frames := 0, cells := 0, slots := 0, locals := 0 } : Room)) (fun a U => a = #[(.ref (w 18))] ∧ Z.Warmed39 U.vm ∧ U.heap = h0) (fun _ _ _ _ _ => True) (fun _ U o U' => ∃ v L, o = .returned v ∧ QP (some (.int (0 : Int32))) h0 n0 v U'.heap L ∧ FrameEnd U o U' L ({ frames := 0, cells := 0, slots := 0, locals := 0 } : Room).cells ({ frames := 0, cells := 0, slots := 0, locals := 0 } : Room).slots) := by
  refine MetFree.of_bodySF (plainFor_of_name pn1) hisR ?_
  intro p e s m args below meth c s₁ Bd hml0 hP hK
  obtain ⟨rfl, hZ, hh⟩ := hP
  have hx := Bd.exec
  have hby := Bd.bytes
  have hml : c.maxLocals = 1 := hml0
  have hown : s.vm.findClass "com/example/strict_credit/strictcredit/diameter/ResultCode" = some m.cls := findClass_of_methodNamed Bd.named
  have hnm := (name_of_methodNamed Bd.named Bd.method).1
  have X0 : Stand p l e ({ frames := 0, cells := 0, slots := 0, locals := 0 } : Room) s m #[(.ref (w 18))] below meth c s₁ [] 0 0 := Stand.of_body Bd
  have e0 : s₁.heap = h0 := by rw [← hh, Bd.state]; rfl
  have N0 := Fr.nil n0
  refine Goes.out (Goes.by (fun tz kz => castTop (ef3_R m ((w 18))) kz) ?_)
  show Goes p e below (s₁.setTop (mkF m 0 #[.val (.ref (w 18))] [])) _
  refine Goes.by (fun _ kz => XS.aloadN X0.here hx rfl (hb hby d3_0) rfl rfl kz) ?_
  obtain ⟨T133, X133, e133, st133⟩ := getF X0 hx hZ hown (host := "") (Or.inl (hw _ (List.mem_of_getElem? (i := 21) rfl))) Via.refl e0 P.2.2.2.2.2.2.2.2.2.2.2.2.2.2.2.2.2.2.2.2.2.2.2.2.2.2.2.2.2.2.2.2.2.2.2.2.2.2.2.2.2.2.2.2.2.2.2.2.2.2.2.2.2.2.2.2.2.2.2.2.2.2.2.2.2.2.2.2.2.2.2.2.2.2.2.2.2.1 (g := (mkF m 1 #[.val (.ref (w 18))] [(.ref (w 18))])) rfl rfl (hb hby d3_1)
  refine Goes.by st133 ?_
  refine Goes.by (fun _ kz => XS.sipush X133.here hx rfl (hb hby d3_4) (XS.idiv X133.here hx rfl (hb hby d3_7) rfl (by decide) kz)) ?_
  show Goes p e below (T133.setTop (mkF m 8 #[.val (.ref (w 18))] [(.int ((5010 : Int32) / (1000 : Int32)))])) _
  rw [show (((5010 : Int32) / (1000 : Int32)) : Int32) = (5 : Int32) from by decide]
  show Goes p e below (T133.setTop (mkF m 8 #[.val (.ref (w 18))] [(.int (5 : Int32))])) _
  refine Goes.by (fun _ kz => XS.iconst X133.here hx rfl (hb hby d3_8) (XS.icmpYes X133.here hx rfl (pc0 := 9) (pc' := 16) rfl (hb hby d3_9) rfl (feq (by decide : ¬ ((5 : Int32) = (3 : Int32)))).2 (by decide) (by decide) (XS.iconst X133.here hx rfl (hb hby d3_16) kz))) ?_
  show Goes p e below (T133.setTop (mkF m 17 #[.val (.ref (w 18))] [(.int (0 : Int32))])) _
  obtain ⟨fs, hr, hrun, hended, hW, hsame⟩ := X133.leave (v := some (.int (0 : Int32))) (fun h => by rw [Bd.returns] at h; cases h)
  exact ⟨_, _, retN X133 hx (t := .boolean) Bd.returns (by simp) (hb hby d3_17) hr, hrun, hended, _, _, rfl, ⟨rfl, N0, e133⟩, ⟨_, rfl⟩, hW, hsame.mono (by decide) (by decide)⟩
set_option maxRecDepth 65536 in
set_option maxHeartbeats 40000000 in
theorem r1_42 (l : Launch) (Z : State) (a0 : Array Value) (hw : ∀ d ∈ tables_1, d.before a0 Z = true) (ws : List Jvm.Cond) (h0 : Heap) (n0 : Nat) (Z0 : n0 ≤ h0.size) (w : Nat → Addr) (P : Pins Z h0 w) :
    MetFree l (⟨"com/example/strict_credit/strictcredit/diameter/ResultCodeIsProtocolErrorPinLaw", "pick", "(I)Lcom/example/strict_credit/strictcredit/diameter/ResultCode;"⟩ : MethodName) (head1 (Jvm.Cond.code (⟨"com/example/strict_credit/strictcredit/diameter/ResultCodeIsProtocolErrorPinLaw", "pick", "(I)Lcom/example/strict_credit/strictcredit/diameter/ResultCode;"⟩ : MethodName) method_2_code 1 (some (.object "com/example/strict_credit/strictcredit/diameter/ResultCode")) :: ws) ({ frames := 0, cells := 0, slots := 0, locals := 0 } : Room)) (fun a U => a = #[(.int (14 : Int32))] ∧ Z.Warmed39 U.vm ∧ U.heap = h0) (fun _ _ _ _ _ => True) (fun _ U o U' => ∃ v L, o = .returned v ∧ QP (some (.ref (w 7))) h0 n0 v U'.heap L ∧ FrameEnd U o U' L ({ frames := 0, cells := 0, slots := 0, locals := 0 } : Room).cells ({ frames := 0, cells := 0, slots := 0, locals := 0 } : Room).slots) := by
  refine MetFree.of_bodySF (plainFor_of_name pn0) hisR ?_
  intro p e s m args below meth c s₁ Bd hml0 hP hK
  obtain ⟨rfl, hZ, hh⟩ := hP
  have hx := Bd.exec
  have hby := Bd.bytes
  have hml : c.maxLocals = 1 := hml0
  have hown : s.vm.findClass "com/example/strict_credit/strictcredit/diameter/ResultCodeIsProtocolErrorPinLaw" = some m.cls := findClass_of_methodNamed Bd.named
  have hnm := (name_of_methodNamed Bd.named Bd.method).1
  have X0 : Stand p l e ({ frames := 0, cells := 0, slots := 0, locals := 0 } : Room) s m #[(.int (14 : Int32))] below meth c s₁ [] 0 0 := Stand.of_body Bd
  have e0 : s₁.heap = h0 := by rw [← hh, Bd.state]; rfl
  have N0 := Fr.nil n0
  refine Goes.out (Goes.by (fun tz kz => castTop (ef1_I m ((14 : Int32))) kz) ?_)
  show Goes p e below (s₁.setTop (mkF m 0 #[.val (.int (14 : Int32))] [])) _
  refine Goes.by (fun _ kz => XS.iloadN X0.here hx rfl (hb hby d1_0) rfl (XS.ifYes X0.here hx rfl (pc0 := 1) (pc' := 8) rfl (hb hby d1_1) rfl ((if0 _ _).trans (feq (by decide : ¬ ((14 : Int32) = (0 : Int32)))).2) (by decide) (by decide) (XS.iloadN X0.here hx rfl (hb hby d1_8) rfl kz))) ?_
  show Goes p e below (s₁.setTop (mkF m 9 #[.val (.int (14 : Int32))] [(.int (14 : Int32))])) _
  refine Goes.by (fun _ kz => XS.iconst X0.here hx rfl (hb hby d1_9) (XS.icmpYes X0.here hx rfl (pc0 := 10) (pc' := 17) rfl (hb hby d1_10) rfl (feq (by decide : ¬ ((14 : Int32) = (1 : Int32)))).2 (by decide) (by decide) (XS.iloadN X0.here hx rfl (hb hby d1_17) rfl kz))) ?_
  show Goes p e below (s₁.setTop (mkF m 18 #[.val (.int (14 : Int32))] [(.int (14 : Int32))])) _
  refine Goes.by (fun _ kz => XS.iconst X0.here hx rfl (hb hby d1_18) (XS.icmpYes X0.here hx rfl (pc0 := 19) (pc' := 26) rfl (hb hby d1_19) rfl (feq (by decide : ¬ ((14 : Int32) = (2 : Int32)))).2 (by decide) (by decide) (XS.iloadN X0.here hx rfl (hb hby d1_26) rfl kz))) ?_
  show Goes p e below (s₁.setTop (mkF m 27 #[.val (.int (14 : Int32))] [(.int (14 : Int32))])) _
  refine Goes.by (fun _ kz => XS.iconst X0.here hx rfl (hb hby d1_27) (XS.icmpYes X0.here hx rfl (pc0 := 28) (pc' := 35) rfl (hb hby d1_28) rfl (feq (by decide : ¬ ((14 : Int32) = (3 : Int32)))).2 (by decide) (by decide) (XS.iloadN X0.here hx rfl (hb hby d1_35) rfl kz))) ?_
  show Goes p e below (s₁.setTop (mkF m 36 #[.val (.int (14 : Int32))] [(.int (14 : Int32))])) _
  refine Goes.by (fun _ kz => XS.iconst X0.here hx rfl (hb hby d1_36) (XS.icmpYes X0.here hx rfl (pc0 := 37) (pc' := 44) rfl (hb hby d1_37) rfl (feq (by decide : ¬ ((14 : Int32) = (4 : Int32)))).2 (by decide) (by decide) (XS.iloadN X0.here hx rfl (hb hby d1_44) rfl kz))) ?_
  show Goes p e below (s₁.setTop (mkF m 45 #[.val (.int (14 : Int32))] [(.int (14 : Int32))])) _
  refine Goes.by (fun _ kz => XS.iconst X0.here hx rfl (hb hby d1_45) (XS.icmpYes X0.here hx rfl (pc0 := 46) (pc' := 53) rfl (hb hby d1_46) rfl (feq (by decide : ¬ ((14 : Int32) = (5 : Int32)))).2 (by decide) (by decide) (XS.iloadN X0.here hx rfl (hb hby d1_53) rfl kz))) ?_
  show Goes p e below (s₁.setTop (mkF m 54 #[.val (.int (14 : Int32))] [(.int (14 : Int32))])) _
  refine Goes.by (fun _ kz => XS.bipush X0.here hx rfl (hb hby d1_54) (XS.icmpYes X0.here hx rfl (pc0 := 56) (pc' := 63) rfl (hb hby d1_56) rfl (feq (by decide : ¬ ((14 : Int32) = (6 : Int32)))).2 (by decide) (by decide) (XS.iloadN X0.here hx rfl (hb hby d1_63) rfl kz))) ?_
  show Goes p e below (s₁.setTop (mkF m 64 #[.val (.int (14 : Int32))] [(.int (14 : Int32))])) _
  refine Goes.by (fun _ kz => XS.bipush X0.here hx rfl (hb hby d1_64) (XS.icmpYes X0.here hx rfl (pc0 := 66) (pc' := 73) rfl (hb hby d1_66) rfl (feq (by decide : ¬ ((14 : Int32) = (7 : Int32)))).2 (by decide) (by decide) (XS.iloadN X0.here hx rfl (hb hby d1_73) rfl kz))) ?_
  show Goes p e below (s₁.setTop (mkF m 74 #[.val (.int (14 : Int32))] [(.int (14 : Int32))])) _
  refine Goes.by (fun _ kz => XS.bipush X0.here hx rfl (hb hby d1_74) (XS.icmpYes X0.here hx rfl (pc0 := 76) (pc' := 83) rfl (hb hby d1_76) rfl (feq (by decide : ¬ ((14 : Int32) = (8 : Int32)))).2 (by decide) (by decide) (XS.iloadN X0.here hx rfl (hb hby d1_83) rfl kz))) ?_
  show Goes p e below (s₁.setTop (mkF m 84 #[.val (.int (14 : Int32))] [(.int (14 : Int32))])) _
  refine Goes.by (fun _ kz => XS.bipush X0.here hx rfl (hb hby d1_84) (XS.icmpYes X0.here hx rfl (pc0 := 86) (pc' := 93) rfl (hb hby d1_86) rfl (feq (by decide : ¬ ((14 : Int32) = (9 : Int32)))).2 (by decide) (by decide) (XS.iloadN X0.here hx rfl (hb hby d1_93) rfl kz))) ?_
  show Goes p e below (s₁.setTop (mkF m 94 #[.val (.int (14 : Int32))] [(.int (14 : Int32))])) _
  refine Goes.by (fun _ kz => XS.bipush X0.here hx rfl (hb hby d1_94) (XS.icmpYes X0.here hx rfl (pc0 := 96) (pc' := 103) rfl (hb hby d1_96) rfl (feq (by decide : ¬ ((14 : Int32) = (10 : Int32)))).2 (by decide) (by decide) (XS.iloadN X0.here hx rfl (hb hby d1_103) rfl kz))) ?_
  show Goes p e below (s₁.setTop (mkF m 104 #[.val (.int (14 : Int32))] [(.int (14 : Int32))])) _
  refine Goes.by (fun _ kz => XS.bipush X0.here hx rfl (hb hby d1_104) (XS.icmpYes X0.here hx rfl (pc0 := 106) (pc' := 113) rfl (hb hby d1_106) rfl (feq (by decide : ¬ ((14 : Int32) = (11 : Int32)))).2 (by decide) (by decide) (XS.iloadN X0.here hx rfl (hb hby d1_113) rfl kz))) ?_
  show Goes p e below (s₁.setTop (mkF m 114 #[.val (.int (14 : Int32))] [(.int (14 : Int32))])) _
  refine Goes.by (fun _ kz => XS.bipush X0.here hx rfl (hb hby d1_114) (XS.icmpYes X0.here hx rfl (pc0 := 116) (pc' := 123) rfl (hb hby d1_116) rfl (feq (by decide : ¬ ((14 : Int32) = (12 : Int32)))).2 (by decide) (by decide) (XS.iloadN X0.here hx rfl (hb hby d1_123) rfl kz))) ?_
  show Goes p e below (s₁.setTop (mkF m 124 #[.val (.int (14 : Int32))] [(.int (14 : Int32))])) _
  refine Goes.by (fun _ kz => XS.bipush X0.here hx rfl (hb hby d1_124) (XS.icmpYes X0.here hx rfl (pc0 := 126) (pc' := 133) rfl (hb hby d1_126) rfl (feq (by decide : ¬ ((14 : Int32) = (13 : Int32)))).2 (by decide) (by decide) (XS.iloadN X0.here hx rfl (hb hby d1_133) rfl kz))) ?_
  show Goes p e below (s₁.setTop (mkF m 134 #[.val (.int (14 : Int32))] [(.int (14 : Int32))])) _
  refine Goes.by (fun _ kz => XS.bipush X0.here hx rfl (hb hby d1_134) (XS.icmpNo X0.here hx rfl (hb hby d1_136) rfl (teq (by decide : (14 : Int32) = (14 : Int32))).2 kz)) ?_
  obtain ⟨T135, X135, e135, st135⟩ := getS2 X0 hx hZ hown (host := "") (Or.inl (hw _ (List.mem_of_getElem? (i := 32) rfl))) Via.refl e0 P.2.2.2.2.2.2.2.2.2.2.2.2.2.2.1 (g := (mkF m 139 #[.val (.int (14 : Int32))] [])) rfl (hb hby d1_139)
  refine Goes.by st135 ?_
  show Goes p e below (T135.setTop (mkF m 142 #[.val (.int (14 : Int32))] [(.ref (w 7))])) _
  obtain ⟨fs, hr, hrun, hended, hW, hsame⟩ := X135.leave (v := some (.ref (w 7))) (fun h => by rw [Bd.returns] at h; cases h)
  exact ⟨_, _, retOut X135 hx (t := (.object "com/example/strict_credit/strictcredit/diameter/ResultCode")) Bd.returns rfl (Or.inr (Or.inr (Or.inr (Or.inr ⟨rfl, rfl, rfl⟩)))) (hb hby d1_142) hr, hrun, hended, _, _, rfl, ⟨rfl, N0, e135⟩, ⟨_, rfl⟩, hW, hsame.mono (by decide) (by decide)⟩
set_option maxRecDepth 65536 in
set_option maxHeartbeats 40000000 in
theorem r2_43 (l : Launch) (Z : State) (a0 : Array Value) (hw : ∀ d ∈ tables_1, d.before a0 Z = true) (ws : List Jvm.Cond) (h0 : Heap) (n0 : Nat) (Z0 : n0 ≤ h0.size) (w : Nat → Addr) (P : Pins Z h0 w) :
    MetFree l (⟨"com/example/strict_credit/strictcredit/diameter/ResultCode", "code", "()I"⟩ : MethodName) (head1 (Jvm.Cond.code (⟨"com/example/strict_credit/strictcredit/diameter/ResultCode", "code", "()I"⟩ : MethodName) prog_39_method_4_code 1 (some .int) :: ws) ({ frames := 0, cells := 0, slots := 0, locals := 0 } : Room)) (fun a U => a = #[(.ref (w 7))] ∧ Z.Warmed39 U.vm ∧ U.heap = h0) (fun _ _ _ _ _ => True) (fun _ U o U' => ∃ v L, o = .returned v ∧ QP (some (.int (5011 : Int32))) h0 n0 v U'.heap L ∧ FrameEnd U o U' L ({ frames := 0, cells := 0, slots := 0, locals := 0 } : Room).cells ({ frames := 0, cells := 0, slots := 0, locals := 0 } : Room).slots) := by
  refine MetFree.of_bodySF (plainFor_of_name pn1) hisR ?_
  intro p e s m args below meth c s₁ Bd hml0 hP hK
  obtain ⟨rfl, hZ, hh⟩ := hP
  have hx := Bd.exec
  have hby := Bd.bytes
  have hml : c.maxLocals = 1 := hml0
  have hown : s.vm.findClass "com/example/strict_credit/strictcredit/diameter/ResultCode" = some m.cls := findClass_of_methodNamed Bd.named
  have hnm := (name_of_methodNamed Bd.named Bd.method).1
  have X0 : Stand p l e ({ frames := 0, cells := 0, slots := 0, locals := 0 } : Room) s m #[(.ref (w 7))] below meth c s₁ [] 0 0 := Stand.of_body Bd
  have e0 : s₁.heap = h0 := by rw [← hh, Bd.state]; rfl
  have N0 := Fr.nil n0
  refine Goes.out (Goes.by (fun tz kz => castTop (ef2_R m ((w 7))) kz) ?_)
  show Goes p e below (s₁.setTop (mkF m 0 #[.val (.ref (w 7))] [])) _
  refine Goes.by (fun _ kz => XS.aloadN X0.here hx rfl (hb hby d2_0) rfl rfl kz) ?_
  obtain ⟨T141, X141, e141, st141⟩ := getF X0 hx hZ hown (host := "") (Or.inl (hw _ (List.mem_of_getElem? (i := 21) rfl))) Via.refl e0 P.2.2.2.2.2.2.2.2.2.2.2.2.2.2.2.2.2.2.2.2.2.2.2.2.2.2.2.2.2.2.2.2.2.2.2.2.2.2.2.2.2.2.2.2.2.2.2.2.2.2.2.2.1 (g := (mkF m 1 #[.val (.ref (w 7))] [(.ref (w 7))])) rfl rfl (hb hby d2_1)
  refine Goes.by st141 ?_
  show Goes p e below (T141.setTop (mkF m 4 #[.val (.ref (w 7))] [(.int (5011 : Int32))])) _
  obtain ⟨fs, hr, hrun, hended, hW, hsame⟩ := X141.leave (v := some (.int (5011 : Int32))) (fun h => by rw [Bd.returns] at h; cases h)
  exact ⟨_, _, retOut X141 hx (t := .int) Bd.returns rfl (Or.inl ⟨rfl, Or.inl rfl, _, rfl⟩) (hb hby d2_4) hr, hrun, hended, _, _, rfl, ⟨rfl, N0, e141⟩, ⟨_, rfl⟩, hW, hsame.mono (by decide) (by decide)⟩
set_option maxRecDepth 65536 in
set_option maxHeartbeats 40000000 in
theorem r3_44 (l : Launch) (Z : State) (a0 : Array Value) (hw : ∀ d ∈ tables_1, d.before a0 Z = true) (ws : List Jvm.Cond) (h0 : Heap) (n0 : Nat) (Z0 : n0 ≤ h0.size) (w : Nat → Addr) (P : Pins Z h0 w) :
    MetFree l (⟨"com/example/strict_credit/strictcredit/diameter/ResultCode", "isProtocolError", "()Z"⟩ : MethodName) (head1 (Jvm.Cond.code (⟨"com/example/strict_credit/strictcredit/diameter/ResultCode", "isProtocolError", "()Z"⟩ : MethodName) prog_39_method_6_code 1 (some .boolean) :: ws) ({ frames := 0, cells := 0, slots := 0, locals := 0 } : Room)) (fun a U => a = #[(.ref (w 7))] ∧ Z.Warmed39 U.vm ∧ U.heap = h0) (fun _ _ _ _ _ => True) (fun _ U o U' => ∃ v L, o = .returned v ∧ QP (some (.int (0 : Int32))) h0 n0 v U'.heap L ∧ FrameEnd U o U' L ({ frames := 0, cells := 0, slots := 0, locals := 0 } : Room).cells ({ frames := 0, cells := 0, slots := 0, locals := 0 } : Room).slots) := by
  refine MetFree.of_bodySF (plainFor_of_name pn1) hisR ?_
  intro p e s m args below meth c s₁ Bd hml0 hP hK
  obtain ⟨rfl, hZ, hh⟩ := hP
  have hx := Bd.exec
  have hby := Bd.bytes
  have hml : c.maxLocals = 1 := hml0
  have hown : s.vm.findClass "com/example/strict_credit/strictcredit/diameter/ResultCode" = some m.cls := findClass_of_methodNamed Bd.named
  have hnm := (name_of_methodNamed Bd.named Bd.method).1
  have X0 : Stand p l e ({ frames := 0, cells := 0, slots := 0, locals := 0 } : Room) s m #[(.ref (w 7))] below meth c s₁ [] 0 0 := Stand.of_body Bd
  have e0 : s₁.heap = h0 := by rw [← hh, Bd.state]; rfl
  have N0 := Fr.nil n0
  refine Goes.out (Goes.by (fun tz kz => castTop (ef3_R m ((w 7))) kz) ?_)
  show Goes p e below (s₁.setTop (mkF m 0 #[.val (.ref (w 7))] [])) _
  refine Goes.by (fun _ kz => XS.aloadN X0.here hx rfl (hb hby d3_0) rfl rfl kz) ?_
  obtain ⟨T143, X143, e143, st143⟩ := getF X0 hx hZ hown (host := "") (Or.inl (hw _ (List.mem_of_getElem? (i := 21) rfl))) Via.refl e0 P.2.2.2.2.2.2.2.2.2.2.2.2.2.2.2.2.2.2.2.2.2.2.2.2.2.2.2.2.2.2.2.2.2.2.2.2.2.2.2.2.2.2.2.2.2.2.2.2.2.2.2.2.1 (g := (mkF m 1 #[.val (.ref (w 7))] [(.ref (w 7))])) rfl rfl (hb hby d3_1)
  refine Goes.by st143 ?_
  refine Goes.by (fun _ kz => XS.sipush X143.here hx rfl (hb hby d3_4) (XS.idiv X143.here hx rfl (hb hby d3_7) rfl (by decide) kz)) ?_
  show Goes p e below (T143.setTop (mkF m 8 #[.val (.ref (w 7))] [(.int ((5011 : Int32) / (1000 : Int32)))])) _
  rw [show (((5011 : Int32) / (1000 : Int32)) : Int32) = (5 : Int32) from by decide]
  show Goes p e below (T143.setTop (mkF m 8 #[.val (.ref (w 7))] [(.int (5 : Int32))])) _
  refine Goes.by (fun _ kz => XS.iconst X143.here hx rfl (hb hby d3_8) (XS.icmpYes X143.here hx rfl (pc0 := 9) (pc' := 16) rfl (hb hby d3_9) rfl (feq (by decide : ¬ ((5 : Int32) = (3 : Int32)))).2 (by decide) (by decide) (XS.iconst X143.here hx rfl (hb hby d3_16) kz))) ?_
  show Goes p e below (T143.setTop (mkF m 17 #[.val (.ref (w 7))] [(.int (0 : Int32))])) _
  obtain ⟨fs, hr, hrun, hended, hW, hsame⟩ := X143.leave (v := some (.int (0 : Int32))) (fun h => by rw [Bd.returns] at h; cases h)
  exact ⟨_, _, retN X143 hx (t := .boolean) Bd.returns (by simp) (hb hby d3_17) hr, hrun, hended, _, _, rfl, ⟨rfl, N0, e143⟩, ⟨_, rfl⟩, hW, hsame.mono (by decide) (by decide)⟩
set_option maxRecDepth 65536 in
set_option maxHeartbeats 40000000 in
theorem r1_45 (l : Launch) (Z : State) (a0 : Array Value) (hw : ∀ d ∈ tables_1, d.before a0 Z = true) (ws : List Jvm.Cond) (h0 : Heap) (n0 : Nat) (Z0 : n0 ≤ h0.size) (w : Nat → Addr) (P : Pins Z h0 w) :
    MetFree l (⟨"com/example/strict_credit/strictcredit/diameter/ResultCodeIsProtocolErrorPinLaw", "pick", "(I)Lcom/example/strict_credit/strictcredit/diameter/ResultCode;"⟩ : MethodName) (head1 (Jvm.Cond.code (⟨"com/example/strict_credit/strictcredit/diameter/ResultCodeIsProtocolErrorPinLaw", "pick", "(I)Lcom/example/strict_credit/strictcredit/diameter/ResultCode;"⟩ : MethodName) method_2_code 1 (some (.object "com/example/strict_credit/strictcredit/diameter/ResultCode")) :: ws) ({ frames := 0, cells := 0, slots := 0, locals := 0 } : Room)) (fun a U => a = #[(.int (15 : Int32))] ∧ Z.Warmed39 U.vm ∧ U.heap = h0) (fun _ _ _ _ _ => True) (fun _ U o U' => ∃ v L, o = .returned v ∧ QP (some (.ref (w 12))) h0 n0 v U'.heap L ∧ FrameEnd U o U' L ({ frames := 0, cells := 0, slots := 0, locals := 0 } : Room).cells ({ frames := 0, cells := 0, slots := 0, locals := 0 } : Room).slots) := by
  refine MetFree.of_bodySF (plainFor_of_name pn0) hisR ?_
  intro p e s m args below meth c s₁ Bd hml0 hP hK
  obtain ⟨rfl, hZ, hh⟩ := hP
  have hx := Bd.exec
  have hby := Bd.bytes
  have hml : c.maxLocals = 1 := hml0
  have hown : s.vm.findClass "com/example/strict_credit/strictcredit/diameter/ResultCodeIsProtocolErrorPinLaw" = some m.cls := findClass_of_methodNamed Bd.named
  have hnm := (name_of_methodNamed Bd.named Bd.method).1
  have X0 : Stand p l e ({ frames := 0, cells := 0, slots := 0, locals := 0 } : Room) s m #[(.int (15 : Int32))] below meth c s₁ [] 0 0 := Stand.of_body Bd
  have e0 : s₁.heap = h0 := by rw [← hh, Bd.state]; rfl
  have N0 := Fr.nil n0
  refine Goes.out (Goes.by (fun tz kz => castTop (ef1_I m ((15 : Int32))) kz) ?_)
  show Goes p e below (s₁.setTop (mkF m 0 #[.val (.int (15 : Int32))] [])) _
  refine Goes.by (fun _ kz => XS.iloadN X0.here hx rfl (hb hby d1_0) rfl (XS.ifYes X0.here hx rfl (pc0 := 1) (pc' := 8) rfl (hb hby d1_1) rfl ((if0 _ _).trans (feq (by decide : ¬ ((15 : Int32) = (0 : Int32)))).2) (by decide) (by decide) (XS.iloadN X0.here hx rfl (hb hby d1_8) rfl kz))) ?_
  show Goes p e below (s₁.setTop (mkF m 9 #[.val (.int (15 : Int32))] [(.int (15 : Int32))])) _
  refine Goes.by (fun _ kz => XS.iconst X0.here hx rfl (hb hby d1_9) (XS.icmpYes X0.here hx rfl (pc0 := 10) (pc' := 17) rfl (hb hby d1_10) rfl (feq (by decide : ¬ ((15 : Int32) = (1 : Int32)))).2 (by decide) (by decide) (XS.iloadN X0.here hx rfl (hb hby d1_17) rfl kz))) ?_
  show Goes p e below (s₁.setTop (mkF m 18 #[.val (.int (15 : Int32))] [(.int (15 : Int32))])) _
  refine Goes.by (fun _ kz => XS.iconst X0.here hx rfl (hb hby d1_18) (XS.icmpYes X0.here hx rfl (pc0 := 19) (pc' := 26) rfl (hb hby d1_19) rfl (feq (by decide : ¬ ((15 : Int32) = (2 : Int32)))).2 (by decide) (by decide) (XS.iloadN X0.here hx rfl (hb hby d1_26) rfl kz))) ?_
  show Goes p e below (s₁.setTop (mkF m 27 #[.val (.int (15 : Int32))] [(.int (15 : Int32))])) _
  refine Goes.by (fun _ kz => XS.iconst X0.here hx rfl (hb hby d1_27) (XS.icmpYes X0.here hx rfl (pc0 := 28) (pc' := 35) rfl (hb hby d1_28) rfl (feq (by decide : ¬ ((15 : Int32) = (3 : Int32)))).2 (by decide) (by decide) (XS.iloadN X0.here hx rfl (hb hby d1_35) rfl kz))) ?_
  show Goes p e below (s₁.setTop (mkF m 36 #[.val (.int (15 : Int32))] [(.int (15 : Int32))])) _
  refine Goes.by (fun _ kz => XS.iconst X0.here hx rfl (hb hby d1_36) (XS.icmpYes X0.here hx rfl (pc0 := 37) (pc' := 44) rfl (hb hby d1_37) rfl (feq (by decide : ¬ ((15 : Int32) = (4 : Int32)))).2 (by decide) (by decide) (XS.iloadN X0.here hx rfl (hb hby d1_44) rfl kz))) ?_
  show Goes p e below (s₁.setTop (mkF m 45 #[.val (.int (15 : Int32))] [(.int (15 : Int32))])) _
  refine Goes.by (fun _ kz => XS.iconst X0.here hx rfl (hb hby d1_45) (XS.icmpYes X0.here hx rfl (pc0 := 46) (pc' := 53) rfl (hb hby d1_46) rfl (feq (by decide : ¬ ((15 : Int32) = (5 : Int32)))).2 (by decide) (by decide) (XS.iloadN X0.here hx rfl (hb hby d1_53) rfl kz))) ?_
  show Goes p e below (s₁.setTop (mkF m 54 #[.val (.int (15 : Int32))] [(.int (15 : Int32))])) _
  refine Goes.by (fun _ kz => XS.bipush X0.here hx rfl (hb hby d1_54) (XS.icmpYes X0.here hx rfl (pc0 := 56) (pc' := 63) rfl (hb hby d1_56) rfl (feq (by decide : ¬ ((15 : Int32) = (6 : Int32)))).2 (by decide) (by decide) (XS.iloadN X0.here hx rfl (hb hby d1_63) rfl kz))) ?_
  show Goes p e below (s₁.setTop (mkF m 64 #[.val (.int (15 : Int32))] [(.int (15 : Int32))])) _
  refine Goes.by (fun _ kz => XS.bipush X0.here hx rfl (hb hby d1_64) (XS.icmpYes X0.here hx rfl (pc0 := 66) (pc' := 73) rfl (hb hby d1_66) rfl (feq (by decide : ¬ ((15 : Int32) = (7 : Int32)))).2 (by decide) (by decide) (XS.iloadN X0.here hx rfl (hb hby d1_73) rfl kz))) ?_
  show Goes p e below (s₁.setTop (mkF m 74 #[.val (.int (15 : Int32))] [(.int (15 : Int32))])) _
  refine Goes.by (fun _ kz => XS.bipush X0.here hx rfl (hb hby d1_74) (XS.icmpYes X0.here hx rfl (pc0 := 76) (pc' := 83) rfl (hb hby d1_76) rfl (feq (by decide : ¬ ((15 : Int32) = (8 : Int32)))).2 (by decide) (by decide) (XS.iloadN X0.here hx rfl (hb hby d1_83) rfl kz))) ?_
  show Goes p e below (s₁.setTop (mkF m 84 #[.val (.int (15 : Int32))] [(.int (15 : Int32))])) _
  refine Goes.by (fun _ kz => XS.bipush X0.here hx rfl (hb hby d1_84) (XS.icmpYes X0.here hx rfl (pc0 := 86) (pc' := 93) rfl (hb hby d1_86) rfl (feq (by decide : ¬ ((15 : Int32) = (9 : Int32)))).2 (by decide) (by decide) (XS.iloadN X0.here hx rfl (hb hby d1_93) rfl kz))) ?_
  show Goes p e below (s₁.setTop (mkF m 94 #[.val (.int (15 : Int32))] [(.int (15 : Int32))])) _
  refine Goes.by (fun _ kz => XS.bipush X0.here hx rfl (hb hby d1_94) (XS.icmpYes X0.here hx rfl (pc0 := 96) (pc' := 103) rfl (hb hby d1_96) rfl (feq (by decide : ¬ ((15 : Int32) = (10 : Int32)))).2 (by decide) (by decide) (XS.iloadN X0.here hx rfl (hb hby d1_103) rfl kz))) ?_
  show Goes p e below (s₁.setTop (mkF m 104 #[.val (.int (15 : Int32))] [(.int (15 : Int32))])) _
  refine Goes.by (fun _ kz => XS.bipush X0.here hx rfl (hb hby d1_104) (XS.icmpYes X0.here hx rfl (pc0 := 106) (pc' := 113) rfl (hb hby d1_106) rfl (feq (by decide : ¬ ((15 : Int32) = (11 : Int32)))).2 (by decide) (by decide) (XS.iloadN X0.here hx rfl (hb hby d1_113) rfl kz))) ?_
  show Goes p e below (s₁.setTop (mkF m 114 #[.val (.int (15 : Int32))] [(.int (15 : Int32))])) _
  refine Goes.by (fun _ kz => XS.bipush X0.here hx rfl (hb hby d1_114) (XS.icmpYes X0.here hx rfl (pc0 := 116) (pc' := 123) rfl (hb hby d1_116) rfl (feq (by decide : ¬ ((15 : Int32) = (12 : Int32)))).2 (by decide) (by decide) (XS.iloadN X0.here hx rfl (hb hby d1_123) rfl kz))) ?_
  show Goes p e below (s₁.setTop (mkF m 124 #[.val (.int (15 : Int32))] [(.int (15 : Int32))])) _
  refine Goes.by (fun _ kz => XS.bipush X0.here hx rfl (hb hby d1_124) (XS.icmpYes X0.here hx rfl (pc0 := 126) (pc' := 133) rfl (hb hby d1_126) rfl (feq (by decide : ¬ ((15 : Int32) = (13 : Int32)))).2 (by decide) (by decide) (XS.iloadN X0.here hx rfl (hb hby d1_133) rfl kz))) ?_
  show Goes p e below (s₁.setTop (mkF m 134 #[.val (.int (15 : Int32))] [(.int (15 : Int32))])) _
  refine Goes.by (fun _ kz => XS.bipush X0.here hx rfl (hb hby d1_134) (XS.icmpYes X0.here hx rfl (pc0 := 136) (pc' := 143) rfl (hb hby d1_136) rfl (feq (by decide : ¬ ((15 : Int32) = (14 : Int32)))).2 (by decide) (by decide) (XS.iloadN X0.here hx rfl (hb hby d1_143) rfl kz))) ?_
  show Goes p e below (s₁.setTop (mkF m 144 #[.val (.int (15 : Int32))] [(.int (15 : Int32))])) _
  refine Goes.by (fun _ kz => XS.bipush X0.here hx rfl (hb hby d1_144) (XS.icmpNo X0.here hx rfl (hb hby d1_146) rfl (teq (by decide : (15 : Int32) = (15 : Int32))).2 kz)) ?_
  obtain ⟨T145, X145, e145, st145⟩ := getS2 X0 hx hZ hown (host := "") (Or.inl (hw _ (List.mem_of_getElem? (i := 42) rfl))) Via.refl e0 P.2.2.2.2.2.2.2.2.2.2.2.2.2.2.2.2.2.2.2.2.2.2.2.2.1 (g := (mkF m 149 #[.val (.int (15 : Int32))] [])) rfl (hb hby d1_149)
  refine Goes.by st145 ?_
  show Goes p e below (T145.setTop (mkF m 152 #[.val (.int (15 : Int32))] [(.ref (w 12))])) _
  obtain ⟨fs, hr, hrun, hended, hW, hsame⟩ := X145.leave (v := some (.ref (w 12))) (fun h => by rw [Bd.returns] at h; cases h)
  exact ⟨_, _, retOut X145 hx (t := (.object "com/example/strict_credit/strictcredit/diameter/ResultCode")) Bd.returns rfl (Or.inr (Or.inr (Or.inr (Or.inr ⟨rfl, rfl, rfl⟩)))) (hb hby d1_152) hr, hrun, hended, _, _, rfl, ⟨rfl, N0, e145⟩, ⟨_, rfl⟩, hW, hsame.mono (by decide) (by decide)⟩
set_option maxRecDepth 65536 in
set_option maxHeartbeats 40000000 in
theorem r2_46 (l : Launch) (Z : State) (a0 : Array Value) (hw : ∀ d ∈ tables_1, d.before a0 Z = true) (ws : List Jvm.Cond) (h0 : Heap) (n0 : Nat) (Z0 : n0 ≤ h0.size) (w : Nat → Addr) (P : Pins Z h0 w) :
    MetFree l (⟨"com/example/strict_credit/strictcredit/diameter/ResultCode", "code", "()I"⟩ : MethodName) (head1 (Jvm.Cond.code (⟨"com/example/strict_credit/strictcredit/diameter/ResultCode", "code", "()I"⟩ : MethodName) prog_39_method_4_code 1 (some .int) :: ws) ({ frames := 0, cells := 0, slots := 0, locals := 0 } : Room)) (fun a U => a = #[(.ref (w 12))] ∧ Z.Warmed39 U.vm ∧ U.heap = h0) (fun _ _ _ _ _ => True) (fun _ U o U' => ∃ v L, o = .returned v ∧ QP (some (.int (5012 : Int32))) h0 n0 v U'.heap L ∧ FrameEnd U o U' L ({ frames := 0, cells := 0, slots := 0, locals := 0 } : Room).cells ({ frames := 0, cells := 0, slots := 0, locals := 0 } : Room).slots) := by
  refine MetFree.of_bodySF (plainFor_of_name pn1) hisR ?_
  intro p e s m args below meth c s₁ Bd hml0 hP hK
  obtain ⟨rfl, hZ, hh⟩ := hP
  have hx := Bd.exec
  have hby := Bd.bytes
  have hml : c.maxLocals = 1 := hml0
  have hown : s.vm.findClass "com/example/strict_credit/strictcredit/diameter/ResultCode" = some m.cls := findClass_of_methodNamed Bd.named
  have hnm := (name_of_methodNamed Bd.named Bd.method).1
  have X0 : Stand p l e ({ frames := 0, cells := 0, slots := 0, locals := 0 } : Room) s m #[(.ref (w 12))] below meth c s₁ [] 0 0 := Stand.of_body Bd
  have e0 : s₁.heap = h0 := by rw [← hh, Bd.state]; rfl
  have N0 := Fr.nil n0
  refine Goes.out (Goes.by (fun tz kz => castTop (ef2_R m ((w 12))) kz) ?_)
  show Goes p e below (s₁.setTop (mkF m 0 #[.val (.ref (w 12))] [])) _
  refine Goes.by (fun _ kz => XS.aloadN X0.here hx rfl (hb hby d2_0) rfl rfl kz) ?_
  obtain ⟨T151, X151, e151, st151⟩ := getF X0 hx hZ hown (host := "") (Or.inl (hw _ (List.mem_of_getElem? (i := 21) rfl))) Via.refl e0 P.2.2.2.2.2.2.2.2.2.2.2.2.2.2.2.2.2.2.2.2.2.2.2.2.2.2.2.2.2.2.2.2.2.2.2.2.2.2.2.2.2.2.2.2.2.2.2.2.2.2.2.2.2.2.2.2.2.2.2.2.2.2.2.1 (g := (mkF m 1 #[.val (.ref (w 12))] [(.ref (w 12))])) rfl rfl (hb hby d2_1)
  refine Goes.by st151 ?_
  show Goes p e below (T151.setTop (mkF m 4 #[.val (.ref (w 12))] [(.int (5012 : Int32))])) _
  obtain ⟨fs, hr, hrun, hended, hW, hsame⟩ := X151.leave (v := some (.int (5012 : Int32))) (fun h => by rw [Bd.returns] at h; cases h)
  exact ⟨_, _, retOut X151 hx (t := .int) Bd.returns rfl (Or.inl ⟨rfl, Or.inl rfl, _, rfl⟩) (hb hby d2_4) hr, hrun, hended, _, _, rfl, ⟨rfl, N0, e151⟩, ⟨_, rfl⟩, hW, hsame.mono (by decide) (by decide)⟩
set_option maxRecDepth 65536 in
set_option maxHeartbeats 40000000 in
theorem r3_47 (l : Launch) (Z : State) (a0 : Array Value) (hw : ∀ d ∈ tables_1, d.before a0 Z = true) (ws : List Jvm.Cond) (h0 : Heap) (n0 : Nat) (Z0 : n0 ≤ h0.size) (w : Nat → Addr) (P : Pins Z h0 w) :
    MetFree l (⟨"com/example/strict_credit/strictcredit/diameter/ResultCode", "isProtocolError", "()Z"⟩ : MethodName) (head1 (Jvm.Cond.code (⟨"com/example/strict_credit/strictcredit/diameter/ResultCode", "isProtocolError", "()Z"⟩ : MethodName) prog_39_method_6_code 1 (some .boolean) :: ws) ({ frames := 0, cells := 0, slots := 0, locals := 0 } : Room)) (fun a U => a = #[(.ref (w 12))] ∧ Z.Warmed39 U.vm ∧ U.heap = h0) (fun _ _ _ _ _ => True) (fun _ U o U' => ∃ v L, o = .returned v ∧ QP (some (.int (0 : Int32))) h0 n0 v U'.heap L ∧ FrameEnd U o U' L ({ frames := 0, cells := 0, slots := 0, locals := 0 } : Room).cells ({ frames := 0, cells := 0, slots := 0, locals := 0 } : Room).slots) := by
  refine MetFree.of_bodySF (plainFor_of_name pn1) hisR ?_
  intro p e s m args below meth c s₁ Bd hml0 hP hK
  obtain ⟨rfl, hZ, hh⟩ := hP
  have hx := Bd.exec
  have hby := Bd.bytes
  have hml : c.maxLocals = 1 := hml0
  have hown : s.vm.findClass "com/example/strict_credit/strictcredit/diameter/ResultCode" = some m.cls := findClass_of_methodNamed Bd.named
  have hnm := (name_of_methodNamed Bd.named Bd.method).1
  have X0 : Stand p l e ({ frames := 0, cells := 0, slots := 0, locals := 0 } : Room) s m #[(.ref (w 12))] below meth c s₁ [] 0 0 := Stand.of_body Bd
  have e0 : s₁.heap = h0 := by rw [← hh, Bd.state]; rfl
  have N0 := Fr.nil n0
  refine Goes.out (Goes.by (fun tz kz => castTop (ef3_R m ((w 12))) kz) ?_)
  show Goes p e below (s₁.setTop (mkF m 0 #[.val (.ref (w 12))] [])) _
  refine Goes.by (fun _ kz => XS.aloadN X0.here hx rfl (hb hby d3_0) rfl rfl kz) ?_
  obtain ⟨T153, X153, e153, st153⟩ := getF X0 hx hZ hown (host := "") (Or.inl (hw _ (List.mem_of_getElem? (i := 21) rfl))) Via.refl e0 P.2.2.2.2.2.2.2.2.2.2.2.2.2.2.2.2.2.2.2.2.2.2.2.2.2.2.2.2.2.2.2.2.2.2.2.2.2.2.2.2.2.2.2.2.2.2.2.2.2.2.2.2.2.2.2.2.2.2.2.2.2.2.2.1 (g := (mkF m 1 #[.val (.ref (w 12))] [(.ref (w 12))])) rfl rfl (hb hby d3_1)
  refine Goes.by st153 ?_
  refine Goes.by (fun _ kz => XS.sipush X153.here hx rfl (hb hby d3_4) (XS.idiv X153.here hx rfl (hb hby d3_7) rfl (by decide) kz)) ?_
  show Goes p e below (T153.setTop (mkF m 8 #[.val (.ref (w 12))] [(.int ((5012 : Int32) / (1000 : Int32)))])) _
  rw [show (((5012 : Int32) / (1000 : Int32)) : Int32) = (5 : Int32) from by decide]
  show Goes p e below (T153.setTop (mkF m 8 #[.val (.ref (w 12))] [(.int (5 : Int32))])) _
  refine Goes.by (fun _ kz => XS.iconst X153.here hx rfl (hb hby d3_8) (XS.icmpYes X153.here hx rfl (pc0 := 9) (pc' := 16) rfl (hb hby d3_9) rfl (feq (by decide : ¬ ((5 : Int32) = (3 : Int32)))).2 (by decide) (by decide) (XS.iconst X153.here hx rfl (hb hby d3_16) kz))) ?_
  show Goes p e below (T153.setTop (mkF m 17 #[.val (.ref (w 12))] [(.int (0 : Int32))])) _
  obtain ⟨fs, hr, hrun, hended, hW, hsame⟩ := X153.leave (v := some (.int (0 : Int32))) (fun h => by rw [Bd.returns] at h; cases h)
  exact ⟨_, _, retN X153 hx (t := .boolean) Bd.returns (by simp) (hb hby d3_17) hr, hrun, hended, _, _, rfl, ⟨rfl, N0, e153⟩, ⟨_, rfl⟩, hW, hsame.mono (by decide) (by decide)⟩
set_option maxRecDepth 65536 in
set_option maxHeartbeats 40000000 in
theorem r1_48 (l : Launch) (Z : State) (a0 : Array Value) (hw : ∀ d ∈ tables_1, d.before a0 Z = true) (ws : List Jvm.Cond) (h0 : Heap) (n0 : Nat) (Z0 : n0 ≤ h0.size) (w : Nat → Addr) (P : Pins Z h0 w) :
    MetFree l (⟨"com/example/strict_credit/strictcredit/diameter/ResultCodeIsProtocolErrorPinLaw", "pick", "(I)Lcom/example/strict_credit/strictcredit/diameter/ResultCode;"⟩ : MethodName) (head1 (Jvm.Cond.code (⟨"com/example/strict_credit/strictcredit/diameter/ResultCodeIsProtocolErrorPinLaw", "pick", "(I)Lcom/example/strict_credit/strictcredit/diameter/ResultCode;"⟩ : MethodName) method_2_code 1 (some (.object "com/example/strict_credit/strictcredit/diameter/ResultCode")) :: ws) ({ frames := 0, cells := 0, slots := 0, locals := 0 } : Room)) (fun a U => a = #[(.int (16 : Int32))] ∧ Z.Warmed39 U.vm ∧ U.heap = h0) (fun _ _ _ _ _ => True) (fun _ U o U' => ∃ v L, o = .returned v ∧ QP (some (.ref (w 15))) h0 n0 v U'.heap L ∧ FrameEnd U o U' L ({ frames := 0, cells := 0, slots := 0, locals := 0 } : Room).cells ({ frames := 0, cells := 0, slots := 0, locals := 0 } : Room).slots) := by
  refine MetFree.of_bodySF (plainFor_of_name pn0) hisR ?_
  intro p e s m args below meth c s₁ Bd hml0 hP hK
  obtain ⟨rfl, hZ, hh⟩ := hP
  have hx := Bd.exec
  have hby := Bd.bytes
  have hml : c.maxLocals = 1 := hml0
  have hown : s.vm.findClass "com/example/strict_credit/strictcredit/diameter/ResultCodeIsProtocolErrorPinLaw" = some m.cls := findClass_of_methodNamed Bd.named
  have hnm := (name_of_methodNamed Bd.named Bd.method).1
  have X0 : Stand p l e ({ frames := 0, cells := 0, slots := 0, locals := 0 } : Room) s m #[(.int (16 : Int32))] below meth c s₁ [] 0 0 := Stand.of_body Bd
  have e0 : s₁.heap = h0 := by rw [← hh, Bd.state]; rfl
  have N0 := Fr.nil n0
  refine Goes.out (Goes.by (fun tz kz => castTop (ef1_I m ((16 : Int32))) kz) ?_)
  show Goes p e below (s₁.setTop (mkF m 0 #[.val (.int (16 : Int32))] [])) _
  refine Goes.by (fun _ kz => XS.iloadN X0.here hx rfl (hb hby d1_0) rfl (XS.ifYes X0.here hx rfl (pc0 := 1) (pc' := 8) rfl (hb hby d1_1) rfl ((if0 _ _).trans (feq (by decide : ¬ ((16 : Int32) = (0 : Int32)))).2) (by decide) (by decide) (XS.iloadN X0.here hx rfl (hb hby d1_8) rfl kz))) ?_
  show Goes p e below (s₁.setTop (mkF m 9 #[.val (.int (16 : Int32))] [(.int (16 : Int32))])) _
  refine Goes.by (fun _ kz => XS.iconst X0.here hx rfl (hb hby d1_9) (XS.icmpYes X0.here hx rfl (pc0 := 10) (pc' := 17) rfl (hb hby d1_10) rfl (feq (by decide : ¬ ((16 : Int32) = (1 : Int32)))).2 (by decide) (by decide) (XS.iloadN X0.here hx rfl (hb hby d1_17) rfl kz))) ?_
  show Goes p e below (s₁.setTop (mkF m 18 #[.val (.int (16 : Int32))] [(.int (16 : Int32))])) _
  refine Goes.by (fun _ kz => XS.iconst X0.here hx rfl (hb hby d1_18) (XS.icmpYes X0.here hx rfl (pc0 := 19) (pc' := 26) rfl (hb hby d1_19) rfl (feq (by decide : ¬ ((16 : Int32) = (2 : Int32)))).2 (by decide) (by decide) (XS.iloadN X0.here hx rfl (hb hby d1_26) rfl kz))) ?_
  show Goes p e below (s₁.setTop (mkF m 27 #[.val (.int (16 : Int32))] [(.int (16 : Int32))])) _
  refine Goes.by (fun _ kz => XS.iconst X0.here hx rfl (hb hby d1_27) (XS.icmpYes X0.here hx rfl (pc0 := 28) (pc' := 35) rfl (hb hby d1_28) rfl (feq (by decide : ¬ ((16 : Int32) = (3 : Int32)))).2 (by decide) (by decide) (XS.iloadN X0.here hx rfl (hb hby d1_35) rfl kz))) ?_
  show Goes p e below (s₁.setTop (mkF m 36 #[.val (.int (16 : Int32))] [(.int (16 : Int32))])) _
  refine Goes.by (fun _ kz => XS.iconst X0.here hx rfl (hb hby d1_36) (XS.icmpYes X0.here hx rfl (pc0 := 37) (pc' := 44) rfl (hb hby d1_37) rfl (feq (by decide : ¬ ((16 : Int32) = (4 : Int32)))).2 (by decide) (by decide) (XS.iloadN X0.here hx rfl (hb hby d1_44) rfl kz))) ?_
  show Goes p e below (s₁.setTop (mkF m 45 #[.val (.int (16 : Int32))] [(.int (16 : Int32))])) _
  refine Goes.by (fun _ kz => XS.iconst X0.here hx rfl (hb hby d1_45) (XS.icmpYes X0.here hx rfl (pc0 := 46) (pc' := 53) rfl (hb hby d1_46) rfl (feq (by decide : ¬ ((16 : Int32) = (5 : Int32)))).2 (by decide) (by decide) (XS.iloadN X0.here hx rfl (hb hby d1_53) rfl kz))) ?_
  show Goes p e below (s₁.setTop (mkF m 54 #[.val (.int (16 : Int32))] [(.int (16 : Int32))])) _
  refine Goes.by (fun _ kz => XS.bipush X0.here hx rfl (hb hby d1_54) (XS.icmpYes X0.here hx rfl (pc0 := 56) (pc' := 63) rfl (hb hby d1_56) rfl (feq (by decide : ¬ ((16 : Int32) = (6 : Int32)))).2 (by decide) (by decide) (XS.iloadN X0.here hx rfl (hb hby d1_63) rfl kz))) ?_
  show Goes p e below (s₁.setTop (mkF m 64 #[.val (.int (16 : Int32))] [(.int (16 : Int32))])) _
  refine Goes.by (fun _ kz => XS.bipush X0.here hx rfl (hb hby d1_64) (XS.icmpYes X0.here hx rfl (pc0 := 66) (pc' := 73) rfl (hb hby d1_66) rfl (feq (by decide : ¬ ((16 : Int32) = (7 : Int32)))).2 (by decide) (by decide) (XS.iloadN X0.here hx rfl (hb hby d1_73) rfl kz))) ?_
  show Goes p e below (s₁.setTop (mkF m 74 #[.val (.int (16 : Int32))] [(.int (16 : Int32))])) _
  refine Goes.by (fun _ kz => XS.bipush X0.here hx rfl (hb hby d1_74) (XS.icmpYes X0.here hx rfl (pc0 := 76) (pc' := 83) rfl (hb hby d1_76) rfl (feq (by decide : ¬ ((16 : Int32) = (8 : Int32)))).2 (by decide) (by decide) (XS.iloadN X0.here hx rfl (hb hby d1_83) rfl kz))) ?_
  show Goes p e below (s₁.setTop (mkF m 84 #[.val (.int (16 : Int32))] [(.int (16 : Int32))])) _
  refine Goes.by (fun _ kz => XS.bipush X0.here hx rfl (hb hby d1_84) (XS.icmpYes X0.here hx rfl (pc0 := 86) (pc' := 93) rfl (hb hby d1_86) rfl (feq (by decide : ¬ ((16 : Int32) = (9 : Int32)))).2 (by decide) (by decide) (XS.iloadN X0.here hx rfl (hb hby d1_93) rfl kz))) ?_
  show Goes p e below (s₁.setTop (mkF m 94 #[.val (.int (16 : Int32))] [(.int (16 : Int32))])) _
  refine Goes.by (fun _ kz => XS.bipush X0.here hx rfl (hb hby d1_94) (XS.icmpYes X0.here hx rfl (pc0 := 96) (pc' := 103) rfl (hb hby d1_96) rfl (feq (by decide : ¬ ((16 : Int32) = (10 : Int32)))).2 (by decide) (by decide) (XS.iloadN X0.here hx rfl (hb hby d1_103) rfl kz))) ?_
  show Goes p e below (s₁.setTop (mkF m 104 #[.val (.int (16 : Int32))] [(.int (16 : Int32))])) _
  refine Goes.by (fun _ kz => XS.bipush X0.here hx rfl (hb hby d1_104) (XS.icmpYes X0.here hx rfl (pc0 := 106) (pc' := 113) rfl (hb hby d1_106) rfl (feq (by decide : ¬ ((16 : Int32) = (11 : Int32)))).2 (by decide) (by decide) (XS.iloadN X0.here hx rfl (hb hby d1_113) rfl kz))) ?_
  show Goes p e below (s₁.setTop (mkF m 114 #[.val (.int (16 : Int32))] [(.int (16 : Int32))])) _
  refine Goes.by (fun _ kz => XS.bipush X0.here hx rfl (hb hby d1_114) (XS.icmpYes X0.here hx rfl (pc0 := 116) (pc' := 123) rfl (hb hby d1_116) rfl (feq (by decide : ¬ ((16 : Int32) = (12 : Int32)))).2 (by decide) (by decide) (XS.iloadN X0.here hx rfl (hb hby d1_123) rfl kz))) ?_
  show Goes p e below (s₁.setTop (mkF m 124 #[.val (.int (16 : Int32))] [(.int (16 : Int32))])) _
  refine Goes.by (fun _ kz => XS.bipush X0.here hx rfl (hb hby d1_124) (XS.icmpYes X0.here hx rfl (pc0 := 126) (pc' := 133) rfl (hb hby d1_126) rfl (feq (by decide : ¬ ((16 : Int32) = (13 : Int32)))).2 (by decide) (by decide) (XS.iloadN X0.here hx rfl (hb hby d1_133) rfl kz))) ?_
  show Goes p e below (s₁.setTop (mkF m 134 #[.val (.int (16 : Int32))] [(.int (16 : Int32))])) _
  refine Goes.by (fun _ kz => XS.bipush X0.here hx rfl (hb hby d1_134) (XS.icmpYes X0.here hx rfl (pc0 := 136) (pc' := 143) rfl (hb hby d1_136) rfl (feq (by decide : ¬ ((16 : Int32) = (14 : Int32)))).2 (by decide) (by decide) (XS.iloadN X0.here hx rfl (hb hby d1_143) rfl kz))) ?_
  show Goes p e below (s₁.setTop (mkF m 144 #[.val (.int (16 : Int32))] [(.int (16 : Int32))])) _
  refine Goes.by (fun _ kz => XS.bipush X0.here hx rfl (hb hby d1_144) (XS.icmpYes X0.here hx rfl (pc0 := 146) (pc' := 153) rfl (hb hby d1_146) rfl (feq (by decide : ¬ ((16 : Int32) = (15 : Int32)))).2 (by decide) (by decide) (XS.iloadN X0.here hx rfl (hb hby d1_153) rfl kz))) ?_
  show Goes p e below (s₁.setTop (mkF m 154 #[.val (.int (16 : Int32))] [(.int (16 : Int32))])) _
  refine Goes.by (fun _ kz => XS.bipush X0.here hx rfl (hb hby d1_154) (XS.icmpNo X0.here hx rfl (hb hby d1_156) rfl (teq (by decide : (16 : Int32) = (16 : Int32))).2 kz)) ?_
  obtain ⟨T155, X155, e155, st155⟩ := getS2 X0 hx hZ hown (host := "") (Or.inl (hw _ (List.mem_of_getElem? (i := 48) rfl))) Via.refl e0 P.2.2.2.2.2.2.2.2.2.2.2.2.2.2.2.2.2.2.2.2.2.2.2.2.2.2.2.2.2.2.1 (g := (mkF m 159 #[.val (.int (16 : Int32))] [])) rfl (hb hby d1_159)
  refine Goes.by st155 ?_
  show Goes p e below (T155.setTop (mkF m 162 #[.val (.int (16 : Int32))] [(.ref (w 15))])) _
  obtain ⟨fs, hr, hrun, hended, hW, hsame⟩ := X155.leave (v := some (.ref (w 15))) (fun h => by rw [Bd.returns] at h; cases h)
  exact ⟨_, _, retOut X155 hx (t := (.object "com/example/strict_credit/strictcredit/diameter/ResultCode")) Bd.returns rfl (Or.inr (Or.inr (Or.inr (Or.inr ⟨rfl, rfl, rfl⟩)))) (hb hby d1_162) hr, hrun, hended, _, _, rfl, ⟨rfl, N0, e155⟩, ⟨_, rfl⟩, hW, hsame.mono (by decide) (by decide)⟩
set_option maxRecDepth 65536 in
set_option maxHeartbeats 40000000 in
theorem r2_49 (l : Launch) (Z : State) (a0 : Array Value) (hw : ∀ d ∈ tables_1, d.before a0 Z = true) (ws : List Jvm.Cond) (h0 : Heap) (n0 : Nat) (Z0 : n0 ≤ h0.size) (w : Nat → Addr) (P : Pins Z h0 w) :
    MetFree l (⟨"com/example/strict_credit/strictcredit/diameter/ResultCode", "code", "()I"⟩ : MethodName) (head1 (Jvm.Cond.code (⟨"com/example/strict_credit/strictcredit/diameter/ResultCode", "code", "()I"⟩ : MethodName) prog_39_method_4_code 1 (some .int) :: ws) ({ frames := 0, cells := 0, slots := 0, locals := 0 } : Room)) (fun a U => a = #[(.ref (w 15))] ∧ Z.Warmed39 U.vm ∧ U.heap = h0) (fun _ _ _ _ _ => True) (fun _ U o U' => ∃ v L, o = .returned v ∧ QP (some (.int (5014 : Int32))) h0 n0 v U'.heap L ∧ FrameEnd U o U' L ({ frames := 0, cells := 0, slots := 0, locals := 0 } : Room).cells ({ frames := 0, cells := 0, slots := 0, locals := 0 } : Room).slots) := by
  refine MetFree.of_bodySF (plainFor_of_name pn1) hisR ?_
  intro p e s m args below meth c s₁ Bd hml0 hP hK
  obtain ⟨rfl, hZ, hh⟩ := hP
  have hx := Bd.exec
  have hby := Bd.bytes
  have hml : c.maxLocals = 1 := hml0
  have hown : s.vm.findClass "com/example/strict_credit/strictcredit/diameter/ResultCode" = some m.cls := findClass_of_methodNamed Bd.named
  have hnm := (name_of_methodNamed Bd.named Bd.method).1
  have X0 : Stand p l e ({ frames := 0, cells := 0, slots := 0, locals := 0 } : Room) s m #[(.ref (w 15))] below meth c s₁ [] 0 0 := Stand.of_body Bd
  have e0 : s₁.heap = h0 := by rw [← hh, Bd.state]; rfl
  have N0 := Fr.nil n0
  refine Goes.out (Goes.by (fun tz kz => castTop (ef2_R m ((w 15))) kz) ?_)
  show Goes p e below (s₁.setTop (mkF m 0 #[.val (.ref (w 15))] [])) _
  refine Goes.by (fun _ kz => XS.aloadN X0.here hx rfl (hb hby d2_0) rfl rfl kz) ?_
  obtain ⟨T161, X161, e161, st161⟩ := getF X0 hx hZ hown (host := "") (Or.inl (hw _ (List.mem_of_getElem? (i := 21) rfl))) Via.refl e0 P.2.2.2.2.2.2.2.2.2.2.2.2.2.2.2.2.2.2.2.2.2.2.2.2.2.2.2.2.2.2.2.2.2.2.2.2.2.2.2.2.2.2.2.2.2.2.2.2.2.2.2.2.2.2.2.2.2.2.2.2.2.2.2.2.2.2.2.2.2.1 (g := (mkF m 1 #[.val (.ref (w 15))] [(.ref (w 15))])) rfl rfl (hb hby d2_1)
  refine Goes.by st161 ?_
  show Goes p e below (T161.setTop (mkF m 4 #[.val (.ref (w 15))] [(.int (5014 : Int32))])) _
  obtain ⟨fs, hr, hrun, hended, hW, hsame⟩ := X161.leave (v := some (.int (5014 : Int32))) (fun h => by rw [Bd.returns] at h; cases h)
  exact ⟨_, _, retOut X161 hx (t := .int) Bd.returns rfl (Or.inl ⟨rfl, Or.inl rfl, _, rfl⟩) (hb hby d2_4) hr, hrun, hended, _, _, rfl, ⟨rfl, N0, e161⟩, ⟨_, rfl⟩, hW, hsame.mono (by decide) (by decide)⟩
set_option maxRecDepth 65536 in
set_option maxHeartbeats 40000000 in
theorem r3_50 (l : Launch) (Z : State) (a0 : Array Value) (hw : ∀ d ∈ tables_1, d.before a0 Z = true) (ws : List Jvm.Cond) (h0 : Heap) (n0 : Nat) (Z0 : n0 ≤ h0.size) (w : Nat → Addr) (P : Pins Z h0 w) :
    MetFree l (⟨"com/example/strict_credit/strictcredit/diameter/ResultCode", "isProtocolError", "()Z"⟩ : MethodName) (head1 (Jvm.Cond.code (⟨"com/example/strict_credit/strictcredit/diameter/ResultCode", "isProtocolError", "()Z"⟩ : MethodName) prog_39_method_6_code 1 (some .boolean) :: ws) ({ frames := 0, cells := 0, slots := 0, locals := 0 } : Room)) (fun a U => a = #[(.ref (w 15))] ∧ Z.Warmed39 U.vm ∧ U.heap = h0) (fun _ _ _ _ _ => True) (fun _ U o U' => ∃ v L, o = .returned v ∧ QP (some (.int (0 : Int32))) h0 n0 v U'.heap L ∧ FrameEnd U o U' L ({ frames := 0, cells := 0, slots := 0, locals := 0 } : Room).cells ({ frames := 0, cells := 0, slots := 0, locals := 0 } : Room).slots) := by
  refine MetFree.of_bodySF (plainFor_of_name pn1) hisR ?_
  intro p e s m args below meth c s₁ Bd hml0 hP hK
  obtain ⟨rfl, hZ, hh⟩ := hP
  have hx := Bd.exec
  have hby := Bd.bytes
  have hml : c.maxLocals = 1 := hml0
  have hown : s.vm.findClass "com/example/strict_credit/strictcredit/diameter/ResultCode" = some m.cls := findClass_of_methodNamed Bd.named
  have hnm := (name_of_methodNamed Bd.named Bd.method).1
  have X0 : Stand p l e ({ frames := 0, cells := 0, slots := 0, locals := 0 } : Room) s m #[(.ref (w 15))] below meth c s₁ [] 0 0 := Stand.of_body Bd
  have e0 : s₁.heap = h0 := by rw [← hh, Bd.state]; rfl
  have N0 := Fr.nil n0
  refine Goes.out (Goes.by (fun tz kz => castTop (ef3_R m ((w 15))) kz) ?_)
  show Goes p e below (s₁.setTop (mkF m 0 #[.val (.ref (w 15))] [])) _
  refine Goes.by (fun _ kz => XS.aloadN X0.here hx rfl (hb hby d3_0) rfl rfl kz) ?_
  obtain ⟨T163, X163, e163, st163⟩ := getF X0 hx hZ hown (host := "") (Or.inl (hw _ (List.mem_of_getElem? (i := 21) rfl))) Via.refl e0 P.2.2.2.2.2.2.2.2.2.2.2.2.2.2.2.2.2.2.2.2.2.2.2.2.2.2.2.2.2.2.2.2.2.2.2.2.2.2.2.2.2.2.2.2.2.2.2.2.2.2.2.2.2.2.2.2.2.2.2.2.2.2.2.2.2.2.2.2.2.1 (g := (mkF m 1 #[.val (.ref (w 15))] [(.ref (w 15))])) rfl rfl (hb hby d3_1)
  refine Goes.by st163 ?_
  refine Goes.by (fun _ kz => XS.sipush X163.here hx rfl (hb hby d3_4) (XS.idiv X163.here hx rfl (hb hby d3_7) rfl (by decide) kz)) ?_
  show Goes p e below (T163.setTop (mkF m 8 #[.val (.ref (w 15))] [(.int ((5014 : Int32) / (1000 : Int32)))])) _
  rw [show (((5014 : Int32) / (1000 : Int32)) : Int32) = (5 : Int32) from by decide]
  show Goes p e below (T163.setTop (mkF m 8 #[.val (.ref (w 15))] [(.int (5 : Int32))])) _
  refine Goes.by (fun _ kz => XS.iconst X163.here hx rfl (hb hby d3_8) (XS.icmpYes X163.here hx rfl (pc0 := 9) (pc' := 16) rfl (hb hby d3_9) rfl (feq (by decide : ¬ ((5 : Int32) = (3 : Int32)))).2 (by decide) (by decide) (XS.iconst X163.here hx rfl (hb hby d3_16) kz))) ?_
  show Goes p e below (T163.setTop (mkF m 17 #[.val (.ref (w 15))] [(.int (0 : Int32))])) _
  obtain ⟨fs, hr, hrun, hended, hW, hsame⟩ := X163.leave (v := some (.int (0 : Int32))) (fun h => by rw [Bd.returns] at h; cases h)
  exact ⟨_, _, retN X163 hx (t := .boolean) Bd.returns (by simp) (hb hby d3_17) hr, hrun, hended, _, _, rfl, ⟨rfl, N0, e163⟩, ⟨_, rfl⟩, hW, hsame.mono (by decide) (by decide)⟩
set_option maxRecDepth 65536 in
set_option maxHeartbeats 40000000 in
theorem r1_51 (l : Launch) (Z : State) (a0 : Array Value) (hw : ∀ d ∈ tables_1, d.before a0 Z = true) (ws : List Jvm.Cond) (h0 : Heap) (n0 : Nat) (Z0 : n0 ≤ h0.size) (w : Nat → Addr) (P : Pins Z h0 w) :
    MetFree l (⟨"com/example/strict_credit/strictcredit/diameter/ResultCodeIsProtocolErrorPinLaw", "pick", "(I)Lcom/example/strict_credit/strictcredit/diameter/ResultCode;"⟩ : MethodName) (head1 (Jvm.Cond.code (⟨"com/example/strict_credit/strictcredit/diameter/ResultCodeIsProtocolErrorPinLaw", "pick", "(I)Lcom/example/strict_credit/strictcredit/diameter/ResultCode;"⟩ : MethodName) method_2_code 1 (some (.object "com/example/strict_credit/strictcredit/diameter/ResultCode")) :: ws) ({ frames := 0, cells := 0, slots := 0, locals := 0 } : Room)) (fun a U => a = #[(.int (17 : Int32))] ∧ Z.Warmed39 U.vm ∧ U.heap = h0) (fun _ _ _ _ _ => True) (fun _ U o U' => ∃ v L, o = .returned v ∧ QP (some (.ref (w 14))) h0 n0 v U'.heap L ∧ FrameEnd U o U' L ({ frames := 0, cells := 0, slots := 0, locals := 0 } : Room).cells ({ frames := 0, cells := 0, slots := 0, locals := 0 } : Room).slots) := by
  refine MetFree.of_bodySF (plainFor_of_name pn0) hisR ?_
  intro p e s m args below meth c s₁ Bd hml0 hP hK
  obtain ⟨rfl, hZ, hh⟩ := hP
  have hx := Bd.exec
  have hby := Bd.bytes
  have hml : c.maxLocals = 1 := hml0
  have hown : s.vm.findClass "com/example/strict_credit/strictcredit/diameter/ResultCodeIsProtocolErrorPinLaw" = some m.cls := findClass_of_methodNamed Bd.named
  have hnm := (name_of_methodNamed Bd.named Bd.method).1
  have X0 : Stand p l e ({ frames := 0, cells := 0, slots := 0, locals := 0 } : Room) s m #[(.int (17 : Int32))] below meth c s₁ [] 0 0 := Stand.of_body Bd
  have e0 : s₁.heap = h0 := by rw [← hh, Bd.state]; rfl
  have N0 := Fr.nil n0
  refine Goes.out (Goes.by (fun tz kz => castTop (ef1_I m ((17 : Int32))) kz) ?_)
  show Goes p e below (s₁.setTop (mkF m 0 #[.val (.int (17 : Int32))] [])) _
  refine Goes.by (fun _ kz => XS.iloadN X0.here hx rfl (hb hby d1_0) rfl (XS.ifYes X0.here hx rfl (pc0 := 1) (pc' := 8) rfl (hb hby d1_1) rfl ((if0 _ _).trans (feq (by decide : ¬ ((17 : Int32) = (0 : Int32)))).2) (by decide) (by decide) (XS.iloadN X0.here hx rfl (hb hby d1_8) rfl kz))) ?_
  show Goes p e below (s₁.setTop (mkF m 9 #[.val (.int (17 : Int32))] [(.int (17 : Int32))])) _
  refine Goes.by (fun _ kz => XS.iconst X0.here hx rfl (hb hby d1_9) (XS.icmpYes X0.here hx rfl (pc0 := 10) (pc' := 17) rfl (hb hby d1_10) rfl (feq (by decide : ¬ ((17 : Int32) = (1 : Int32)))).2 (by decide) (by decide) (XS.iloadN X0.here hx rfl (hb hby d1_17) rfl kz))) ?_
  show Goes p e below (s₁.setTop (mkF m 18 #[.val (.int (17 : Int32))] [(.int (17 : Int32))])) _
  refine Goes.by (fun _ kz => XS.iconst X0.here hx rfl (hb hby d1_18) (XS.icmpYes X0.here hx rfl (pc0 := 19) (pc' := 26) rfl (hb hby d1_19) rfl (feq (by decide : ¬ ((17 : Int32) = (2 : Int32)))).2 (by decide) (by decide) (XS.iloadN X0.here hx rfl (hb hby d1_26) rfl kz))) ?_
  show Goes p e below (s₁.setTop (mkF m 27 #[.val (.int (17 : Int32))] [(.int (17 : Int32))])) _
  refine Goes.by (fun _ kz => XS.iconst X0.here hx rfl (hb hby d1_27) (XS.icmpYes X0.here hx rfl (pc0 := 28) (pc' := 35) rfl (hb hby d1_28) rfl (feq (by decide : ¬ ((17 : Int32) = (3 : Int32)))).2 (by decide) (by decide) (XS.iloadN X0.here hx rfl (hb hby d1_35) rfl kz))) ?_
  show Goes p e below (s₁.setTop (mkF m 36 #[.val (.int (17 : Int32))] [(.int (17 : Int32))])) _
  refine Goes.by (fun _ kz => XS.iconst X0.here hx rfl (hb hby d1_36) (XS.icmpYes X0.here hx rfl (pc0 := 37) (pc' := 44) rfl (hb hby d1_37) rfl (feq (by decide : ¬ ((17 : Int32) = (4 : Int32)))).2 (by decide) (by decide) (XS.iloadN X0.here hx rfl (hb hby d1_44) rfl kz))) ?_
  show Goes p e below (s₁.setTop (mkF m 45 #[.val (.int (17 : Int32))] [(.int (17 : Int32))])) _
  refine Goes.by (fun _ kz => XS.iconst X0.here hx rfl (hb hby d1_45) (XS.icmpYes X0.here hx rfl (pc0 := 46) (pc' := 53) rfl (hb hby d1_46) rfl (feq (by decide : ¬ ((17 : Int32) = (5 : Int32)))).2 (by decide) (by decide) (XS.iloadN X0.here hx rfl (hb hby d1_53) rfl kz))) ?_
  show Goes p e below (s₁.setTop (mkF m 54 #[.val (.int (17 : Int32))] [(.int (17 : Int32))])) _
  refine Goes.by (fun _ kz => XS.bipush X0.here hx rfl (hb hby d1_54) (XS.icmpYes X0.here hx rfl (pc0 := 56) (pc' := 63) rfl (hb hby d1_56) rfl (feq (by decide : ¬ ((17 : Int32) = (6 : Int32)))).2 (by decide) (by decide) (XS.iloadN X0.here hx rfl (hb hby d1_63) rfl kz))) ?_
  show Goes p e below (s₁.setTop (mkF m 64 #[.val (.int (17 : Int32))] [(.int (17 : Int32))])) _
  refine Goes.by (fun _ kz => XS.bipush X0.here hx rfl (hb hby d1_64) (XS.icmpYes X0.here hx rfl (pc0 := 66) (pc' := 73) rfl (hb hby d1_66) rfl (feq (by decide : ¬ ((17 : Int32) = (7 : Int32)))).2 (by decide) (by decide) (XS.iloadN X0.here hx rfl (hb hby d1_73) rfl kz))) ?_
  show Goes p e below (s₁.setTop (mkF m 74 #[.val (.int (17 : Int32))] [(.int (17 : Int32))])) _
  refine Goes.by (fun _ kz => XS.bipush X0.here hx rfl (hb hby d1_74) (XS.icmpYes X0.here hx rfl (pc0 := 76) (pc' := 83) rfl (hb hby d1_76) rfl (feq (by decide : ¬ ((17 : Int32) = (8 : Int32)))).2 (by decide) (by decide) (XS.iloadN X0.here hx rfl (hb hby d1_83) rfl kz))) ?_
  show Goes p e below (s₁.setTop (mkF m 84 #[.val (.int (17 : Int32))] [(.int (17 : Int32))])) _
  refine Goes.by (fun _ kz => XS.bipush X0.here hx rfl (hb hby d1_84) (XS.icmpYes X0.here hx rfl (pc0 := 86) (pc' := 93) rfl (hb hby d1_86) rfl (feq (by decide : ¬ ((17 : Int32) = (9 : Int32)))).2 (by decide) (by decide) (XS.iloadN X0.here hx rfl (hb hby d1_93) rfl kz))) ?_
  show Goes p e below (s₁.setTop (mkF m 94 #[.val (.int (17 : Int32))] [(.int (17 : Int32))])) _
  refine Goes.by (fun _ kz => XS.bipush X0.here hx rfl (hb hby d1_94) (XS.icmpYes X0.here hx rfl (pc0 := 96) (pc' := 103) rfl (hb hby d1_96) rfl (feq (by decide : ¬ ((17 : Int32) = (10 : Int32)))).2 (by decide) (by decide) (XS.iloadN X0.here hx rfl (hb hby d1_103) rfl kz))) ?_
  show Goes p e below (s₁.setTop (mkF m 104 #[.val (.int (17 : Int32))] [(.int (17 : Int32))])) _
  refine Goes.by (fun _ kz => XS.bipush X0.here hx rfl (hb hby d1_104) (XS.icmpYes X0.here hx rfl (pc0 := 106) (pc' := 113) rfl (hb hby d1_106) rfl (feq (by decide : ¬ ((17 : Int32) = (11 : Int32)))).2 (by decide) (by decide) (XS.iloadN X0.here hx rfl (hb hby d1_113) rfl kz))) ?_
  show Goes p e below (s₁.setTop (mkF m 114 #[.val (.int (17 : Int32))] [(.int (17 : Int32))])) _
  refine Goes.by (fun _ kz => XS.bipush X0.here hx rfl (hb hby d1_114) (XS.icmpYes X0.here hx rfl (pc0 := 116) (pc' := 123) rfl (hb hby d1_116) rfl (feq (by decide : ¬ ((17 : Int32) = (12 : Int32)))).2 (by decide) (by decide) (XS.iloadN X0.here hx rfl (hb hby d1_123) rfl kz))) ?_
  show Goes p e below (s₁.setTop (mkF m 124 #[.val (.int (17 : Int32))] [(.int (17 : Int32))])) _
  refine Goes.by (fun _ kz => XS.bipush X0.here hx rfl (hb hby d1_124) (XS.icmpYes X0.here hx rfl (pc0 := 126) (pc' := 133) rfl (hb hby d1_126) rfl (feq (by decide : ¬ ((17 : Int32) = (13 : Int32)))).2 (by decide) (by decide) (XS.iloadN X0.here hx rfl (hb hby d1_133) rfl kz))) ?_
  show Goes p e below (s₁.setTop (mkF m 134 #[.val (.int (17 : Int32))] [(.int (17 : Int32))])) _
  refine Goes.by (fun _ kz => XS.bipush X0.here hx rfl (hb hby d1_134) (XS.icmpYes X0.here hx rfl (pc0 := 136) (pc' := 143) rfl (hb hby d1_136) rfl (feq (by decide : ¬ ((17 : Int32) = (14 : Int32)))).2 (by decide) (by decide) (XS.iloadN X0.here hx rfl (hb hby d1_143) rfl kz))) ?_
  show Goes p e below (s₁.setTop (mkF m 144 #[.val (.int (17 : Int32))] [(.int (17 : Int32))])) _
  refine Goes.by (fun _ kz => XS.bipush X0.here hx rfl (hb hby d1_144) (XS.icmpYes X0.here hx rfl (pc0 := 146) (pc' := 153) rfl (hb hby d1_146) rfl (feq (by decide : ¬ ((17 : Int32) = (15 : Int32)))).2 (by decide) (by decide) (XS.iloadN X0.here hx rfl (hb hby d1_153) rfl kz))) ?_
  show Goes p e below (s₁.setTop (mkF m 154 #[.val (.int (17 : Int32))] [(.int (17 : Int32))])) _
  refine Goes.by (fun _ kz => XS.bipush X0.here hx rfl (hb hby d1_154) (XS.icmpYes X0.here hx rfl (pc0 := 156) (pc' := 163) rfl (hb hby d1_156) rfl (feq (by decide : ¬ ((17 : Int32) = (16 : Int32)))).2 (by decide) (by decide) (XS.iloadN X0.here hx rfl (hb hby d1_163) rfl kz))) ?_
  show Goes p e below (s₁.setTop (mkF m 164 #[.val (.int (17 : Int32))] [(.int (17 : Int32))])) _
  refine Goes.by (fun _ kz => XS.bipush X0.here hx rfl (hb hby d1_164) (XS.icmpNo X0.here hx rfl (hb hby d1_166) rfl (teq (by decide : (17 : Int32) = (17 : Int32))).2 kz)) ?_
  obtain ⟨T165, X165, e165, st165⟩ := getS2 X0 hx hZ hown (host := "") (Or.inl (hw _ (List.mem_of_getElem? (i := 46) rfl))) Via.refl e0 P.2.2.2.2.2.2.2.2.2.2.2.2.2.2.2.2.2.2.2.2.2.2.2.2.2.2.2.2.1 (g := (mkF m 169 #[.val (.int (17 : Int32))] [])) rfl (hb hby d1_169)
  refine Goes.by st165 ?_
  show Goes p e below (T165.setTop (mkF m 172 #[.val (.int (17 : Int32))] [(.ref (w 14))])) _
  obtain ⟨fs, hr, hrun, hended, hW, hsame⟩ := X165.leave (v := some (.ref (w 14))) (fun h => by rw [Bd.returns] at h; cases h)
  exact ⟨_, _, retOut X165 hx (t := (.object "com/example/strict_credit/strictcredit/diameter/ResultCode")) Bd.returns rfl (Or.inr (Or.inr (Or.inr (Or.inr ⟨rfl, rfl, rfl⟩)))) (hb hby d1_172) hr, hrun, hended, _, _, rfl, ⟨rfl, N0, e165⟩, ⟨_, rfl⟩, hW, hsame.mono (by decide) (by decide)⟩
set_option maxRecDepth 65536 in
set_option maxHeartbeats 40000000 in
theorem r2_52 (l : Launch) (Z : State) (a0 : Array Value) (hw : ∀ d ∈ tables_1, d.before a0 Z = true) (ws : List Jvm.Cond) (h0 : Heap) (n0 : Nat) (Z0 : n0 ≤ h0.size) (w : Nat → Addr) (P : Pins Z h0 w) :
    MetFree l (⟨"com/example/strict_credit/strictcredit/diameter/ResultCode", "code", "()I"⟩ : MethodName) (head1 (Jvm.Cond.code (⟨"com/example/strict_credit/strictcredit/diameter/ResultCode", "code", "()I"⟩ : MethodName) prog_39_method_4_code 1 (some .int) :: ws) ({ frames := 0, cells := 0, slots := 0, locals := 0 } : Room)) (fun a U => a = #[(.ref (w 14))] ∧ Z.Warmed39 U.vm ∧ U.heap = h0) (fun _ _ _ _ _ => True) (fun _ U o U' => ∃ v L, o = .returned v ∧ QP (some (.int (5015 : Int32))) h0 n0 v U'.heap L ∧ FrameEnd U o U' L ({ frames := 0, cells := 0, slots := 0, locals := 0 } : Room).cells ({ frames := 0, cells := 0, slots := 0, locals := 0 } : Room).slots) := by
  refine MetFree.of_bodySF (plainFor_of_name pn1) hisR ?_
  intro p e s m args below meth c s₁ Bd hml0 hP hK
  obtain ⟨rfl, hZ, hh⟩ := hP
  have hx := Bd.exec
  have hby := Bd.bytes
  have hml : c.maxLocals = 1 := hml0
  have hown : s.vm.findClass "com/example/strict_credit/strictcredit/diameter/ResultCode" = some m.cls := findClass_of_methodNamed Bd.named
  have hnm := (name_of_methodNamed Bd.named Bd.method).1
  have X0 : Stand p l e ({ frames := 0, cells := 0, slots := 0, locals := 0 } : Room) s m #[(.ref (w 14))] below meth c s₁ [] 0 0 := Stand.of_body Bd
  have e0 : s₁.heap = h0 := by rw [← hh, Bd.state]; rfl
  have N0 := Fr.nil n0
  refine Goes.out (Goes.by (fun tz kz => castTop (ef2_R m ((w 14))) kz) ?_)
  show Goes p e below (s₁.setTop (mkF m 0 #[.val (.ref (w 14))] [])) _
  refine Goes.by (fun _ kz => XS.aloadN X0.here hx rfl (hb hby d2_0) rfl rfl kz) ?_
  obtain ⟨T171, X171, e171, st171⟩ := getF X0 hx hZ hown (host := "") (Or.inl (hw _ (List.mem_of_getElem? (i := 21) rfl))) Via.refl e0 P.2.2.2.2.2.2.2.2.2.2.2.2.2.2.2.2.2.2.2.2.2.2.2.2.2.2.2.2.2.2.2.2.2.2.2.2.2.2.2.2.2.2.2.2.2.2.2.2.2.2.2.2.2.2.2.2.2.2.2.2.2.2.2.2.2.2.2.1 (g := (mkF m 1 #[.val (.ref (w 14))] [(.ref (w 14))])) rfl rfl (hb hby d2_1)
  refine Goes.by st171 ?_
  show Goes p e below (T171.setTop (mkF m 4 #[.val (.ref (w 14))] [(.int (5015 : Int32))])) _
  obtain ⟨fs, hr, hrun, hended, hW, hsame⟩ := X171.leave (v := some (.int (5015 : Int32))) (fun h => by rw [Bd.returns] at h; cases h)
  exact ⟨_, _, retOut X171 hx (t := .int) Bd.returns rfl (Or.inl ⟨rfl, Or.inl rfl, _, rfl⟩) (hb hby d2_4) hr, hrun, hended, _, _, rfl, ⟨rfl, N0, e171⟩, ⟨_, rfl⟩, hW, hsame.mono (by decide) (by decide)⟩
set_option maxRecDepth 65536 in
set_option maxHeartbeats 40000000 in
theorem r3_53 (l : Launch) (Z : State) (a0 : Array Value) (hw : ∀ d ∈ tables_1, d.before a0 Z = true) (ws : List Jvm.Cond) (h0 : Heap) (n0 : Nat) (Z0 : n0 ≤ h0.size) (w : Nat → Addr) (P : Pins Z h0 w) :
    MetFree l (⟨"com/example/strict_credit/strictcredit/diameter/ResultCode", "isProtocolError", "()Z"⟩ : MethodName) (head1 (Jvm.Cond.code (⟨"com/example/strict_credit/strictcredit/diameter/ResultCode", "isProtocolError", "()Z"⟩ : MethodName) prog_39_method_6_code 1 (some .boolean) :: ws) ({ frames := 0, cells := 0, slots := 0, locals := 0 } : Room)) (fun a U => a = #[(.ref (w 14))] ∧ Z.Warmed39 U.vm ∧ U.heap = h0) (fun _ _ _ _ _ => True) (fun _ U o U' => ∃ v L, o = .returned v ∧ QP (some (.int (0 : Int32))) h0 n0 v U'.heap L ∧ FrameEnd U o U' L ({ frames := 0, cells := 0, slots := 0, locals := 0 } : Room).cells ({ frames := 0, cells := 0, slots := 0, locals := 0 } : Room).slots) := by
  refine MetFree.of_bodySF (plainFor_of_name pn1) hisR ?_
  intro p e s m args below meth c s₁ Bd hml0 hP hK
  obtain ⟨rfl, hZ, hh⟩ := hP
  have hx := Bd.exec
  have hby := Bd.bytes
  have hml : c.maxLocals = 1 := hml0
  have hown : s.vm.findClass "com/example/strict_credit/strictcredit/diameter/ResultCode" = some m.cls := findClass_of_methodNamed Bd.named
  have hnm := (name_of_methodNamed Bd.named Bd.method).1
  have X0 : Stand p l e ({ frames := 0, cells := 0, slots := 0, locals := 0 } : Room) s m #[(.ref (w 14))] below meth c s₁ [] 0 0 := Stand.of_body Bd
  have e0 : s₁.heap = h0 := by rw [← hh, Bd.state]; rfl
  have N0 := Fr.nil n0
  refine Goes.out (Goes.by (fun tz kz => castTop (ef3_R m ((w 14))) kz) ?_)
  show Goes p e below (s₁.setTop (mkF m 0 #[.val (.ref (w 14))] [])) _
  refine Goes.by (fun _ kz => XS.aloadN X0.here hx rfl (hb hby d3_0) rfl rfl kz) ?_
  obtain ⟨T173, X173, e173, st173⟩ := getF X0 hx hZ hown (host := "") (Or.inl (hw _ (List.mem_of_getElem? (i := 21) rfl))) Via.refl e0 P.2.2.2.2.2.2.2.2.2.2.2.2.2.2.2.2.2.2.2.2.2.2.2.2.2.2.2.2.2.2.2.2.2.2.2.2.2.2.2.2.2.2.2.2.2.2.2.2.2.2.2.2.2.2.2.2.2.2.2.2.2.2.2.2.2.2.2.1 (g := (mkF m 1 #[.val (.ref (w 14))] [(.ref (w 14))])) rfl rfl (hb hby d3_1)
  refine Goes.by st173 ?_
  refine Goes.by (fun _ kz => XS.sipush X173.here hx rfl (hb hby d3_4) (XS.idiv X173.here hx rfl (hb hby d3_7) rfl (by decide) kz)) ?_
  show Goes p e below (T173.setTop (mkF m 8 #[.val (.ref (w 14))] [(.int ((5015 : Int32) / (1000 : Int32)))])) _
  rw [show (((5015 : Int32) / (1000 : Int32)) : Int32) = (5 : Int32) from by decide]
  show Goes p e below (T173.setTop (mkF m 8 #[.val (.ref (w 14))] [(.int (5 : Int32))])) _
  refine Goes.by (fun _ kz => XS.iconst X173.here hx rfl (hb hby d3_8) (XS.icmpYes X173.here hx rfl (pc0 := 9) (pc' := 16) rfl (hb hby d3_9) rfl (feq (by decide : ¬ ((5 : Int32) = (3 : Int32)))).2 (by decide) (by decide) (XS.iconst X173.here hx rfl (hb hby d3_16) kz))) ?_
  show Goes p e below (T173.setTop (mkF m 17 #[.val (.ref (w 14))] [(.int (0 : Int32))])) _
  obtain ⟨fs, hr, hrun, hended, hW, hsame⟩ := X173.leave (v := some (.int (0 : Int32))) (fun h => by rw [Bd.returns] at h; cases h)
  exact ⟨_, _, retN X173 hx (t := .boolean) Bd.returns (by simp) (hb hby d3_17) hr, hrun, hended, _, _, rfl, ⟨rfl, N0, e173⟩, ⟨_, rfl⟩, hW, hsame.mono (by decide) (by decide)⟩
set_option maxRecDepth 65536 in
set_option maxHeartbeats 40000000 in
theorem r1_54 (l : Launch) (Z : State) (a0 : Array Value) (hw : ∀ d ∈ tables_1, d.before a0 Z = true) (ws : List Jvm.Cond) (h0 : Heap) (n0 : Nat) (Z0 : n0 ≤ h0.size) (w : Nat → Addr) (P : Pins Z h0 w) :
    MetFree l (⟨"com/example/strict_credit/strictcredit/diameter/ResultCodeIsProtocolErrorPinLaw", "pick", "(I)Lcom/example/strict_credit/strictcredit/diameter/ResultCode;"⟩ : MethodName) (head1 (Jvm.Cond.code (⟨"com/example/strict_credit/strictcredit/diameter/ResultCodeIsProtocolErrorPinLaw", "pick", "(I)Lcom/example/strict_credit/strictcredit/diameter/ResultCode;"⟩ : MethodName) method_2_code 1 (some (.object "com/example/strict_credit/strictcredit/diameter/ResultCode")) :: ws) ({ frames := 0, cells := 0, slots := 0, locals := 0 } : Room)) (fun a U => a = #[(.int (18 : Int32))] ∧ Z.Warmed39 U.vm ∧ U.heap = h0) (fun _ _ _ _ _ => True) (fun _ U o U' => ∃ v L, o = .returned v ∧ QP (some (.ref (w 19))) h0 n0 v U'.heap L ∧ FrameEnd U o U' L ({ frames := 0, cells := 0, slots := 0, locals := 0 } : Room).cells ({ frames := 0, cells := 0, slots := 0, locals := 0 } : Room).slots) := by
  refine MetFree.of_bodySF (plainFor_of_name pn0) hisR ?_
  intro p e s m args below meth c s₁ Bd hml0 hP hK
  obtain ⟨rfl, hZ, hh⟩ := hP
  have hx := Bd.exec
  have hby := Bd.bytes
  have hml : c.maxLocals = 1 := hml0
  have hown : s.vm.findClass "com/example/strict_credit/strictcredit/diameter/ResultCodeIsProtocolErrorPinLaw" = some m.cls := findClass_of_methodNamed Bd.named
  have hnm := (name_of_methodNamed Bd.named Bd.method).1
  have X0 : Stand p l e ({ frames := 0, cells := 0, slots := 0, locals := 0 } : Room) s m #[(.int (18 : Int32))] below meth c s₁ [] 0 0 := Stand.of_body Bd
  have e0 : s₁.heap = h0 := by rw [← hh, Bd.state]; rfl
  have N0 := Fr.nil n0
  refine Goes.out (Goes.by (fun tz kz => castTop (ef1_I m ((18 : Int32))) kz) ?_)
  show Goes p e below (s₁.setTop (mkF m 0 #[.val (.int (18 : Int32))] [])) _
  refine Goes.by (fun _ kz => XS.iloadN X0.here hx rfl (hb hby d1_0) rfl (XS.ifYes X0.here hx rfl (pc0 := 1) (pc' := 8) rfl (hb hby d1_1) rfl ((if0 _ _).trans (feq (by decide : ¬ ((18 : Int32) = (0 : Int32)))).2) (by decide) (by decide) (XS.iloadN X0.here hx rfl (hb hby d1_8) rfl kz))) ?_
  show Goes p e below (s₁.setTop (mkF m 9 #[.val (.int (18 : Int32))] [(.int (18 : Int32))])) _
  refine Goes.by (fun _ kz => XS.iconst X0.here hx rfl (hb hby d1_9) (XS.icmpYes X0.here hx rfl (pc0 := 10) (pc' := 17) rfl (hb hby d1_10) rfl (feq (by decide : ¬ ((18 : Int32) = (1 : Int32)))).2 (by decide) (by decide) (XS.iloadN X0.here hx rfl (hb hby d1_17) rfl kz))) ?_
  show Goes p e below (s₁.setTop (mkF m 18 #[.val (.int (18 : Int32))] [(.int (18 : Int32))])) _
  refine Goes.by (fun _ kz => XS.iconst X0.here hx rfl (hb hby d1_18) (XS.icmpYes X0.here hx rfl (pc0 := 19) (pc' := 26) rfl (hb hby d1_19) rfl (feq (by decide : ¬ ((18 : Int32) = (2 : Int32)))).2 (by decide) (by decide) (XS.iloadN X0.here hx rfl (hb hby d1_26) rfl kz))) ?_
  show Goes p e below (s₁.setTop (mkF m 27 #[.val (.int (18 : Int32))] [(.int (18 : Int32))])) _
  refine Goes.by (fun _ kz => XS.iconst X0.here hx rfl (hb hby d1_27) (XS.icmpYes X0.here hx rfl (pc0 := 28) (pc' := 35) rfl (hb hby d1_28) rfl (feq (by decide : ¬ ((18 : Int32) = (3 : Int32)))).2 (by decide) (by decide) (XS.iloadN X0.here hx rfl (hb hby d1_35) rfl kz))) ?_
  show Goes p e below (s₁.setTop (mkF m 36 #[.val (.int (18 : Int32))] [(.int (18 : Int32))])) _
  refine Goes.by (fun _ kz => XS.iconst X0.here hx rfl (hb hby d1_36) (XS.icmpYes X0.here hx rfl (pc0 := 37) (pc' := 44) rfl (hb hby d1_37) rfl (feq (by decide : ¬ ((18 : Int32) = (4 : Int32)))).2 (by decide) (by decide) (XS.iloadN X0.here hx rfl (hb hby d1_44) rfl kz))) ?_
  show Goes p e below (s₁.setTop (mkF m 45 #[.val (.int (18 : Int32))] [(.int (18 : Int32))])) _
  refine Goes.by (fun _ kz => XS.iconst X0.here hx rfl (hb hby d1_45) (XS.icmpYes X0.here hx rfl (pc0 := 46) (pc' := 53) rfl (hb hby d1_46) rfl (feq (by decide : ¬ ((18 : Int32) = (5 : Int32)))).2 (by decide) (by decide) (XS.iloadN X0.here hx rfl (hb hby d1_53) rfl kz))) ?_
  show Goes p e below (s₁.setTop (mkF m 54 #[.val (.int (18 : Int32))] [(.int (18 : Int32))])) _
  refine Goes.by (fun _ kz => XS.bipush X0.here hx rfl (hb hby d1_54) (XS.icmpYes X0.here hx rfl (pc0 := 56) (pc' := 63) rfl (hb hby d1_56) rfl (feq (by decide : ¬ ((18 : Int32) = (6 : Int32)))).2 (by decide) (by decide) (XS.iloadN X0.here hx rfl (hb hby d1_63) rfl kz))) ?_
  show Goes p e below (s₁.setTop (mkF m 64 #[.val (.int (18 : Int32))] [(.int (18 : Int32))])) _
  refine Goes.by (fun _ kz => XS.bipush X0.here hx rfl (hb hby d1_64) (XS.icmpYes X0.here hx rfl (pc0 := 66) (pc' := 73) rfl (hb hby d1_66) rfl (feq (by decide : ¬ ((18 : Int32) = (7 : Int32)))).2 (by decide) (by decide) (XS.iloadN X0.here hx rfl (hb hby d1_73) rfl kz))) ?_
  show Goes p e below (s₁.setTop (mkF m 74 #[.val (.int (18 : Int32))] [(.int (18 : Int32))])) _
  refine Goes.by (fun _ kz => XS.bipush X0.here hx rfl (hb hby d1_74) (XS.icmpYes X0.here hx rfl (pc0 := 76) (pc' := 83) rfl (hb hby d1_76) rfl (feq (by decide : ¬ ((18 : Int32) = (8 : Int32)))).2 (by decide) (by decide) (XS.iloadN X0.here hx rfl (hb hby d1_83) rfl kz))) ?_
  show Goes p e below (s₁.setTop (mkF m 84 #[.val (.int (18 : Int32))] [(.int (18 : Int32))])) _
  refine Goes.by (fun _ kz => XS.bipush X0.here hx rfl (hb hby d1_84) (XS.icmpYes X0.here hx rfl (pc0 := 86) (pc' := 93) rfl (hb hby d1_86) rfl (feq (by decide : ¬ ((18 : Int32) = (9 : Int32)))).2 (by decide) (by decide) (XS.iloadN X0.here hx rfl (hb hby d1_93) rfl kz))) ?_
  show Goes p e below (s₁.setTop (mkF m 94 #[.val (.int (18 : Int32))] [(.int (18 : Int32))])) _
  refine Goes.by (fun _ kz => XS.bipush X0.here hx rfl (hb hby d1_94) (XS.icmpYes X0.here hx rfl (pc0 := 96) (pc' := 103) rfl (hb hby d1_96) rfl (feq (by decide : ¬ ((18 : Int32) = (10 : Int32)))).2 (by decide) (by decide) (XS.iloadN X0.here hx rfl (hb hby d1_103) rfl kz))) ?_
  show Goes p e below (s₁.setTop (mkF m 104 #[.val (.int (18 : Int32))] [(.int (18 : Int32))])) _
  refine Goes.by (fun _ kz => XS.bipush X0.here hx rfl (hb hby d1_104) (XS.icmpYes X0.here hx rfl (pc0 := 106) (pc' := 113) rfl (hb hby d1_106) rfl (feq (by decide : ¬ ((18 : Int32) = (11 : Int32)))).2 (by decide) (by decide) (XS.iloadN X0.here hx rfl (hb hby d1_113) rfl kz))) ?_
  show Goes p e below (s₁.setTop (mkF m 114 #[.val (.int (18 : Int32))] [(.int (18 : Int32))])) _
  refine Goes.by (fun _ kz => XS.bipush X0.here hx rfl (hb hby d1_114) (XS.icmpYes X0.here hx rfl (pc0 := 116) (pc' := 123) rfl (hb hby d1_116) rfl (feq (by decide : ¬ ((18 : Int32) = (12 : Int32)))).2 (by decide) (by decide) (XS.iloadN X0.here hx rfl (hb hby d1_123) rfl kz))) ?_
  show Goes p e below (s₁.setTop (mkF m 124 #[.val (.int (18 : Int32))] [(.int (18 : Int32))])) _
  refine Goes.by (fun _ kz => XS.bipush X0.here hx rfl (hb hby d1_124) (XS.icmpYes X0.here hx rfl (pc0 := 126) (pc' := 133) rfl (hb hby d1_126) rfl (feq (by decide : ¬ ((18 : Int32) = (13 : Int32)))).2 (by decide) (by decide) (XS.iloadN X0.here hx rfl (hb hby d1_133) rfl kz))) ?_
  show Goes p e below (s₁.setTop (mkF m 134 #[.val (.int (18 : Int32))] [(.int (18 : Int32))])) _
  refine Goes.by (fun _ kz => XS.bipush X0.here hx rfl (hb hby d1_134) (XS.icmpYes X0.here hx rfl (pc0 := 136) (pc' := 143) rfl (hb hby d1_136) rfl (feq (by decide : ¬ ((18 : Int32) = (14 : Int32)))).2 (by decide) (by decide) (XS.iloadN X0.here hx rfl (hb hby d1_143) rfl kz))) ?_
  show Goes p e below (s₁.setTop (mkF m 144 #[.val (.int (18 : Int32))] [(.int (18 : Int32))])) _
  refine Goes.by (fun _ kz => XS.bipush X0.here hx rfl (hb hby d1_144) (XS.icmpYes X0.here hx rfl (pc0 := 146) (pc' := 153) rfl (hb hby d1_146) rfl (feq (by decide : ¬ ((18 : Int32) = (15 : Int32)))).2 (by decide) (by decide) (XS.iloadN X0.here hx rfl (hb hby d1_153) rfl kz))) ?_
  show Goes p e below (s₁.setTop (mkF m 154 #[.val (.int (18 : Int32))] [(.int (18 : Int32))])) _
  refine Goes.by (fun _ kz => XS.bipush X0.here hx rfl (hb hby d1_154) (XS.icmpYes X0.here hx rfl (pc0 := 156) (pc' := 163) rfl (hb hby d1_156) rfl (feq (by decide : ¬ ((18 : Int32) = (16 : Int32)))).2 (by decide) (by decide) (XS.iloadN X0.here hx rfl (hb hby d1_163) rfl kz))) ?_
  show Goes p e below (s₁.setTop (mkF m 164 #[.val (.int (18 : Int32))] [(.int (18 : Int32))])) _
  refine Goes.by (fun _ kz => XS.bipush X0.here hx rfl (hb hby d1_164) (XS.icmpYes X0.here hx rfl (pc0 := 166) (pc' := 173) rfl (hb hby d1_166) rfl (feq (by decide : ¬ ((18 : Int32) = (17 : Int32)))).2 (by decide) (by decide) (XS.iloadN X0.here hx rfl (hb hby d1_173) rfl kz))) ?_
  show Goes p e below (s₁.setTop (mkF m 174 #[.val (.int (18 : Int32))] [(.int (18 : Int32))])) _
  refine Goes.by (fun _ kz => XS.bipush X0.here hx rfl (hb hby d1_174) (XS.icmpNo X0.here hx rfl (hb hby d1_176) rfl (teq (by decide : (18 : Int32) = (18 : Int32))).2 kz)) ?_
  obtain ⟨T175, X175, e175, st175⟩ := getS2 X0 hx hZ hown (host := "") (Or.inl (hw _ (List.mem_of_getElem? (i := 56) rfl))) Via.refl e0 P.2.2.2.2.2.2.2.2.2.2.2.2.2.2.2.2.2.2.2.2.2.2.2.2.2.2.2.2.2.2.2.2.2.2.2.2.2.2.1 (g := (mkF m 179 #[.val (.int (18 : Int32))] [])) rfl (hb hby d1_179)
  refine Goes.by st175 ?_
  show Goes p e below (T175.setTop (mkF m 182 #[.val (.int (18 : Int32))] [(.ref (w 19))])) _
  obtain ⟨fs, hr, hrun, hended, hW, hsame⟩ := X175.leave (v := some (.ref (w 19))) (fun h => by rw [Bd.returns] at h; cases h)
  exact ⟨_, _, retOut X175 hx (t := (.object "com/example/strict_credit/strictcredit/diameter/ResultCode")) Bd.returns rfl (Or.inr (Or.inr (Or.inr (Or.inr ⟨rfl, rfl, rfl⟩)))) (hb hby d1_182) hr, hrun, hended, _, _, rfl, ⟨rfl, N0, e175⟩, ⟨_, rfl⟩, hW, hsame.mono (by decide) (by decide)⟩
set_option maxRecDepth 65536 in
set_option maxHeartbeats 40000000 in
theorem r2_55 (l : Launch) (Z : State) (a0 : Array Value) (hw : ∀ d ∈ tables_1, d.before a0 Z = true) (ws : List Jvm.Cond) (h0 : Heap) (n0 : Nat) (Z0 : n0 ≤ h0.size) (w : Nat → Addr) (P : Pins Z h0 w) :
    MetFree l (⟨"com/example/strict_credit/strictcredit/diameter/ResultCode", "code", "()I"⟩ : MethodName) (head1 (Jvm.Cond.code (⟨"com/example/strict_credit/strictcredit/diameter/ResultCode", "code", "()I"⟩ : MethodName) prog_39_method_4_code 1 (some .int) :: ws) ({ frames := 0, cells := 0, slots := 0, locals := 0 } : Room)) (fun a U => a = #[(.ref (w 19))] ∧ Z.Warmed39 U.vm ∧ U.heap = h0) (fun _ _ _ _ _ => True) (fun _ U o U' => ∃ v L, o = .returned v ∧ QP (some (.int (5030 : Int32))) h0 n0 v U'.heap L ∧ FrameEnd U o U' L ({ frames := 0, cells := 0, slots := 0, locals := 0 } : Room).cells ({ frames := 0, cells := 0, slots := 0, locals := 0 } : Room).slots) := by
  refine MetFree.of_bodySF (plainFor_of_name pn1) hisR ?_
  intro p e s m args below meth c s₁ Bd hml0 hP hK
  obtain ⟨rfl, hZ, hh⟩ := hP
  have hx := Bd.exec
  have hby := Bd.bytes
  have hml : c.maxLocals = 1 := hml0
  have hown : s.vm.findClass "com/example/strict_credit/strictcredit/diameter/ResultCode" = some m.cls := findClass_of_methodNamed Bd.named
  have hnm := (name_of_methodNamed Bd.named Bd.method).1
  have X0 : Stand p l e ({ frames := 0, cells := 0, slots := 0, locals := 0 } : Room) s m #[(.ref (w 19))] below meth c s₁ [] 0 0 := Stand.of_body Bd
  have e0 : s₁.heap = h0 := by rw [← hh, Bd.state]; rfl
  have N0 := Fr.nil n0
  refine Goes.out (Goes.by (fun tz kz => castTop (ef2_R m ((w 19))) kz) ?_)
  show Goes p e below (s₁.setTop (mkF m 0 #[.val (.ref (w 19))] [])) _
  refine Goes.by (fun _ kz => XS.aloadN X0.here hx rfl (hb hby d2_0) rfl rfl kz) ?_
  obtain ⟨T181, X181, e181, st181⟩ := getF X0 hx hZ hown (host := "") (Or.inl (hw _ (List.mem_of_getElem? (i := 21) rfl))) Via.refl e0 P.2.2.2.2.2.2.2.2.2.2.2.2.2.2.2.2.2.2.2.2.2.2.2.2.2.2.2.2.2.2.2.2.2.2.2.2.2.2.2.2.2.2.2.2.2.2.2.2.2.2.2.2.2.2.2.2.2.2.2.2.2.2.2.2.2.2.2.2.2.2.2.2.2.2.2.2.2.2.2 (g := (mkF m 1 #[.val (.ref (w 19))] [(.ref (w 19))])) rfl rfl (hb hby d2_1)
  refine Goes.by st181 ?_
  show Goes p e below (T181.setTop (mkF m 4 #[.val (.ref (w 19))] [(.int (5030 : Int32))])) _
  obtain ⟨fs, hr, hrun, hended, hW, hsame⟩ := X181.leave (v := some (.int (5030 : Int32))) (fun h => by rw [Bd.returns] at h; cases h)
  exact ⟨_, _, retOut X181 hx (t := .int) Bd.returns rfl (Or.inl ⟨rfl, Or.inl rfl, _, rfl⟩) (hb hby d2_4) hr, hrun, hended, _, _, rfl, ⟨rfl, N0, e181⟩, ⟨_, rfl⟩, hW, hsame.mono (by decide) (by decide)⟩
set_option maxRecDepth 65536 in
set_option maxHeartbeats 40000000 in
theorem r3_56 (l : Launch) (Z : State) (a0 : Array Value) (hw : ∀ d ∈ tables_1, d.before a0 Z = true) (ws : List Jvm.Cond) (h0 : Heap) (n0 : Nat) (Z0 : n0 ≤ h0.size) (w : Nat → Addr) (P : Pins Z h0 w) :
    MetFree l (⟨"com/example/strict_credit/strictcredit/diameter/ResultCode", "isProtocolError", "()Z"⟩ : MethodName) (head1 (Jvm.Cond.code (⟨"com/example/strict_credit/strictcredit/diameter/ResultCode", "isProtocolError", "()Z"⟩ : MethodName) prog_39_method_6_code 1 (some .boolean) :: ws) ({ frames := 0, cells := 0, slots := 0, locals := 0 } : Room)) (fun a U => a = #[(.ref (w 19))] ∧ Z.Warmed39 U.vm ∧ U.heap = h0) (fun _ _ _ _ _ => True) (fun _ U o U' => ∃ v L, o = .returned v ∧ QP (some (.int (0 : Int32))) h0 n0 v U'.heap L ∧ FrameEnd U o U' L ({ frames := 0, cells := 0, slots := 0, locals := 0 } : Room).cells ({ frames := 0, cells := 0, slots := 0, locals := 0 } : Room).slots) := by
  refine MetFree.of_bodySF (plainFor_of_name pn1) hisR ?_
  intro p e s m args below meth c s₁ Bd hml0 hP hK
  obtain ⟨rfl, hZ, hh⟩ := hP
  have hx := Bd.exec
  have hby := Bd.bytes
  have hml : c.maxLocals = 1 := hml0
  have hown : s.vm.findClass "com/example/strict_credit/strictcredit/diameter/ResultCode" = some m.cls := findClass_of_methodNamed Bd.named
  have hnm := (name_of_methodNamed Bd.named Bd.method).1
  have X0 : Stand p l e ({ frames := 0, cells := 0, slots := 0, locals := 0 } : Room) s m #[(.ref (w 19))] below meth c s₁ [] 0 0 := Stand.of_body Bd
  have e0 : s₁.heap = h0 := by rw [← hh, Bd.state]; rfl
  have N0 := Fr.nil n0
  refine Goes.out (Goes.by (fun tz kz => castTop (ef3_R m ((w 19))) kz) ?_)
  show Goes p e below (s₁.setTop (mkF m 0 #[.val (.ref (w 19))] [])) _
  refine Goes.by (fun _ kz => XS.aloadN X0.here hx rfl (hb hby d3_0) rfl rfl kz) ?_
  obtain ⟨T183, X183, e183, st183⟩ := getF X0 hx hZ hown (host := "") (Or.inl (hw _ (List.mem_of_getElem? (i := 21) rfl))) Via.refl e0 P.2.2.2.2.2.2.2.2.2.2.2.2.2.2.2.2.2.2.2.2.2.2.2.2.2.2.2.2.2.2.2.2.2.2.2.2.2.2.2.2.2.2.2.2.2.2.2.2.2.2.2.2.2.2.2.2.2.2.2.2.2.2.2.2.2.2.2.2.2.2.2.2.2.2.2.2.2.2.2 (g := (mkF m 1 #[.val (.ref (w 19))] [(.ref (w 19))])) rfl rfl (hb hby d3_1)
  refine Goes.by st183 ?_
  refine Goes.by (fun _ kz => XS.sipush X183.here hx rfl (hb hby d3_4) (XS.idiv X183.here hx rfl (hb hby d3_7) rfl (by decide) kz)) ?_
  show Goes p e below (T183.setTop (mkF m 8 #[.val (.ref (w 19))] [(.int ((5030 : Int32) / (1000 : Int32)))])) _
  rw [show (((5030 : Int32) / (1000 : Int32)) : Int32) = (5 : Int32) from by decide]
  show Goes p e below (T183.setTop (mkF m 8 #[.val (.ref (w 19))] [(.int (5 : Int32))])) _
  refine Goes.by (fun _ kz => XS.iconst X183.here hx rfl (hb hby d3_8) (XS.icmpYes X183.here hx rfl (pc0 := 9) (pc' := 16) rfl (hb hby d3_9) rfl (feq (by decide : ¬ ((5 : Int32) = (3 : Int32)))).2 (by decide) (by decide) (XS.iconst X183.here hx rfl (hb hby d3_16) kz))) ?_
  show Goes p e below (T183.setTop (mkF m 17 #[.val (.ref (w 19))] [(.int (0 : Int32))])) _
  obtain ⟨fs, hr, hrun, hended, hW, hsame⟩ := X183.leave (v := some (.int (0 : Int32))) (fun h => by rw [Bd.returns] at h; cases h)
  exact ⟨_, _, retN X183 hx (t := .boolean) Bd.returns (by simp) (hb hby d3_17) hr, hrun, hended, _, _, rfl, ⟨rfl, N0, e183⟩, ⟨_, rfl⟩, hW, hsame.mono (by decide) (by decide)⟩
set_option maxRecDepth 65536 in
set_option maxHeartbeats 40000000 in
theorem r1_57 (l : Launch) (Z : State) (a0 : Array Value) (hw : ∀ d ∈ tables_1, d.before a0 Z = true) (ws : List Jvm.Cond) (h0 : Heap) (n0 : Nat) (Z0 : n0 ≤ h0.size) (w : Nat → Addr) (P : Pins Z h0 w) :
    MetFree l (⟨"com/example/strict_credit/strictcredit/diameter/ResultCodeIsProtocolErrorPinLaw", "pick", "(I)Lcom/example/strict_credit/strictcredit/diameter/ResultCode;"⟩ : MethodName) (head1 (Jvm.Cond.code (⟨"com/example/strict_credit/strictcredit/diameter/ResultCodeIsProtocolErrorPinLaw", "pick", "(I)Lcom/example/strict_credit/strictcredit/diameter/ResultCode;"⟩ : MethodName) method_2_code 1 (some (.object "com/example/strict_credit/strictcredit/diameter/ResultCode")) :: ws) ({ frames := 0, cells := 0, slots := 0, locals := 0 } : Room)) (fun a U => a = #[(.int (19 : Int32))] ∧ Z.Warmed39 U.vm ∧ U.heap = h0) (fun _ _ _ _ _ => True) (fun _ U o U' => ∃ v L, o = .returned v ∧ QP (some (.ref (w 11))) h0 n0 v U'.heap L ∧ FrameEnd U o U' L ({ frames := 0, cells := 0, slots := 0, locals := 0 } : Room).cells ({ frames := 0, cells := 0, slots := 0, locals := 0 } : Room).slots) := by
  refine MetFree.of_bodySF (plainFor_of_name pn0) hisR ?_
  intro p e s m args below meth c s₁ Bd hml0 hP hK
  obtain ⟨rfl, hZ, hh⟩ := hP
  have hx := Bd.exec
  have hby := Bd.bytes
  have hml : c.maxLocals = 1 := hml0
  have hown : s.vm.findClass "com/example/strict_credit/strictcredit/diameter/ResultCodeIsProtocolErrorPinLaw" = some m.cls := findClass_of_methodNamed Bd.named
  have hnm := (name_of_methodNamed Bd.named Bd.method).1
  have X0 : Stand p l e ({ frames := 0, cells := 0, slots := 0, locals := 0 } : Room) s m #[(.int (19 : Int32))] below meth c s₁ [] 0 0 := Stand.of_body Bd
  have e0 : s₁.heap = h0 := by rw [← hh, Bd.state]; rfl
  have N0 := Fr.nil n0
  refine Goes.out (Goes.by (fun tz kz => castTop (ef1_I m ((19 : Int32))) kz) ?_)
  show Goes p e below (s₁.setTop (mkF m 0 #[.val (.int (19 : Int32))] [])) _
  refine Goes.by (fun _ kz => XS.iloadN X0.here hx rfl (hb hby d1_0) rfl (XS.ifYes X0.here hx rfl (pc0 := 1) (pc' := 8) rfl (hb hby d1_1) rfl ((if0 _ _).trans (feq (by decide : ¬ ((19 : Int32) = (0 : Int32)))).2) (by decide) (by decide) (XS.iloadN X0.here hx rfl (hb hby d1_8) rfl kz))) ?_
  show Goes p e below (s₁.setTop (mkF m 9 #[.val (.int (19 : Int32))] [(.int (19 : Int32))])) _
  refine Goes.by (fun _ kz => XS.iconst X0.here hx rfl (hb hby d1_9) (XS.icmpYes X0.here hx rfl (pc0 := 10) (pc' := 17) rfl (hb hby d1_10) rfl (feq (by decide : ¬ ((19 : Int32) = (1 : Int32)))).2 (by decide) (by decide) (XS.iloadN X0.here hx rfl (hb hby d1_17) rfl kz))) ?_
  show Goes p e below (s₁.setTop (mkF m 18 #[.val (.int (19 : Int32))] [(.int (19 : Int32))])) _
  refine Goes.by (fun _ kz => XS.iconst X0.here hx rfl (hb hby d1_18) (XS.icmpYes X0.here hx rfl (pc0 := 19) (pc' := 26) rfl (hb hby d1_19) rfl (feq (by decide : ¬ ((19 : Int32) = (2 : Int32)))).2 (by decide) (by decide) (XS.iloadN X0.here hx rfl (hb hby d1_26) rfl kz))) ?_
  show Goes p e below (s₁.setTop (mkF m 27 #[.val (.int (19 : Int32))] [(.int (19 : Int32))])) _
  refine Goes.by (fun _ kz => XS.iconst X0.here hx rfl (hb hby d1_27) (XS.icmpYes X0.here hx rfl (pc0 := 28) (pc' := 35) rfl (hb hby d1_28) rfl (feq (by decide : ¬ ((19 : Int32) = (3 : Int32)))).2 (by decide) (by decide) (XS.iloadN X0.here hx rfl (hb hby d1_35) rfl kz))) ?_
  show Goes p e below (s₁.setTop (mkF m 36 #[.val (.int (19 : Int32))] [(.int (19 : Int32))])) _
  refine Goes.by (fun _ kz => XS.iconst X0.here hx rfl (hb hby d1_36) (XS.icmpYes X0.here hx rfl (pc0 := 37) (pc' := 44) rfl (hb hby d1_37) rfl (feq (by decide : ¬ ((19 : Int32) = (4 : Int32)))).2 (by decide) (by decide) (XS.iloadN X0.here hx rfl (hb hby d1_44) rfl kz))) ?_
  show Goes p e below (s₁.setTop (mkF m 45 #[.val (.int (19 : Int32))] [(.int (19 : Int32))])) _
  refine Goes.by (fun _ kz => XS.iconst X0.here hx rfl (hb hby d1_45) (XS.icmpYes X0.here hx rfl (pc0 := 46) (pc' := 53) rfl (hb hby d1_46) rfl (feq (by decide : ¬ ((19 : Int32) = (5 : Int32)))).2 (by decide) (by decide) (XS.iloadN X0.here hx rfl (hb hby d1_53) rfl kz))) ?_
  show Goes p e below (s₁.setTop (mkF m 54 #[.val (.int (19 : Int32))] [(.int (19 : Int32))])) _
  refine Goes.by (fun _ kz => XS.bipush X0.here hx rfl (hb hby d1_54) (XS.icmpYes X0.here hx rfl (pc0 := 56) (pc' := 63) rfl (hb hby d1_56) rfl (feq (by decide : ¬ ((19 : Int32) = (6 : Int32)))).2 (by decide) (by decide) (XS.iloadN X0.here hx rfl (hb hby d1_63) rfl kz))) ?_
  show Goes p e below (s₁.setTop (mkF m 64 #[.val (.int (19 : Int32))] [(.int (19 : Int32))])) _
  refine Goes.by (fun _ kz => XS.bipush X0.here hx rfl (hb hby d1_64) (XS.icmpYes X0.here hx rfl (pc0 := 66) (pc' := 73) rfl (hb hby d1_66) rfl (feq (by decide : ¬ ((19 : Int32) = (7 : Int32)))).2 (by decide) (by decide) (XS.iloadN X0.here hx rfl (hb hby d1_73) rfl kz))) ?_
  show Goes p e below (s₁.setTop (mkF m 74 #[.val (.int (19 : Int32))] [(.int (19 : Int32))])) _
  refine Goes.by (fun _ kz => XS.bipush X0.here hx rfl (hb hby d1_74) (XS.icmpYes X0.here hx rfl (pc0 := 76) (pc' := 83) rfl (hb hby d1_76) rfl (feq (by decide : ¬ ((19 : Int32) = (8 : Int32)))).2 (by decide) (by decide) (XS.iloadN X0.here hx rfl (hb hby d1_83) rfl kz))) ?_
  show Goes p e below (s₁.setTop (mkF m 84 #[.val (.int (19 : Int32))] [(.int (19 : Int32))])) _
  refine Goes.by (fun _ kz => XS.bipush X0.here hx rfl (hb hby d1_84) (XS.icmpYes X0.here hx rfl (pc0 := 86) (pc' := 93) rfl (hb hby d1_86) rfl (feq (by decide : ¬ ((19 : Int32) = (9 : Int32)))).2 (by decide) (by decide) (XS.iloadN X0.here hx rfl (hb hby d1_93) rfl kz))) ?_
  show Goes p e below (s₁.setTop (mkF m 94 #[.val (.int (19 : Int32))] [(.int (19 : Int32))])) _
  refine Goes.by (fun _ kz => XS.bipush X0.here hx rfl (hb hby d1_94) (XS.icmpYes X0.here hx rfl (pc0 := 96) (pc' := 103) rfl (hb hby d1_96) rfl (feq (by decide : ¬ ((19 : Int32) = (10 : Int32)))).2 (by decide) (by decide) (XS.iloadN X0.here hx rfl (hb hby d1_103) rfl kz))) ?_
  show Goes p e below (s₁.setTop (mkF m 104 #[.val (.int (19 : Int32))] [(.int (19 : Int32))])) _
  refine Goes.by (fun _ kz => XS.bipush X0.here hx rfl (hb hby d1_104) (XS.icmpYes X0.here hx rfl (pc0 := 106) (pc' := 113) rfl (hb hby d1_106) rfl (feq (by decide : ¬ ((19 : Int32) = (11 : Int32)))).2 (by decide) (by decide) (XS.iloadN X0.here hx rfl (hb hby d1_113) rfl kz))) ?_
  show Goes p e below (s₁.setTop (mkF m 114 #[.val (.int (19 : Int32))] [(.int (19 : Int32))])) _
  refine Goes.by (fun _ kz => XS.bipush X0.here hx rfl (hb hby d1_114) (XS.icmpYes X0.here hx rfl (pc0 := 116) (pc' := 123) rfl (hb hby d1_116) rfl (feq (by decide : ¬ ((19 : Int32) = (12 : Int32)))).2 (by decide) (by decide) (XS.iloadN X0.here hx rfl (hb hby d1_123) rfl kz))) ?_
  show Goes p e below (s₁.setTop (mkF m 124 #[.val (.int (19 : Int32))] [(.int (19 : Int32))])) _
  refine Goes.by (fun _ kz => XS.bipush X0.here hx rfl (hb hby d1_124) (XS.icmpYes X0.here hx rfl (pc0 := 126) (pc' := 133) rfl (hb hby d1_126) rfl (feq (by decide : ¬ ((19 : Int32) = (13 : Int32)))).2 (by decide) (by decide) (XS.iloadN X0.here hx rfl (hb hby d1_133) rfl kz))) ?_
  show Goes p e below (s₁.setTop (mkF m 134 #[.val (.int (19 : Int32))] [(.int (19 : Int32))])) _
  refine Goes.by (fun _ kz => XS.bipush X0.here hx rfl (hb hby d1_134) (XS.icmpYes X0.here hx rfl (pc0 := 136) (pc' := 143) rfl (hb hby d1_136) rfl (feq (by decide : ¬ ((19 : Int32) = (14 : Int32)))).2 (by decide) (by decide) (XS.iloadN X0.here hx rfl (hb hby d1_143) rfl kz))) ?_
  show Goes p e below (s₁.setTop (mkF m 144 #[.val (.int (19 : Int32))] [(.int (19 : Int32))])) _
  refine Goes.by (fun _ kz => XS.bipush X0.here hx rfl (hb hby d1_144) (XS.icmpYes X0.here hx rfl (pc0 := 146) (pc' := 153) rfl (hb hby d1_146) rfl (feq (by decide : ¬ ((19 : Int32) = (15 : Int32)))).2 (by decide) (by decide) (XS.iloadN X0.here hx rfl (hb hby d1_153) rfl kz))) ?_
  show Goes p e below (s₁.setTop (mkF m 154 #[.val (.int (19 : Int32))] [(.int (19 : Int32))])) _
  refine Goes.by (fun _ kz => XS.bipush X0.here hx rfl (hb hby d1_154) (XS.icmpYes X0.here hx rfl (pc0 := 156) (pc' := 163) rfl (hb hby d1_156) rfl (feq (by decide : ¬ ((19 : Int32) = (16 : Int32)))).2 (by decide) (by decide) (XS.iloadN X0.here hx rfl (hb hby d1_163) rfl kz))) ?_
  show Goes p e below (s₁.setTop (mkF m 164 #[.val (.int (19 : Int32))] [(.int (19 : Int32))])) _
  refine Goes.by (fun _ kz => XS.bipush X0.here hx rfl (hb hby d1_164) (XS.icmpYes X0.here hx rfl (pc0 := 166) (pc' := 173) rfl (hb hby d1_166) rfl (feq (by decide : ¬ ((19 : Int32) = (17 : Int32)))).2 (by decide) (by decide) (XS.iloadN X0.here hx rfl (hb hby d1_173) rfl kz))) ?_
  show Goes p e below (s₁.setTop (mkF m 174 #[.val (.int (19 : Int32))] [(.int (19 : Int32))])) _
  refine Goes.by (fun _ kz => XS.bipush X0.here hx rfl (hb hby d1_174) (XS.icmpYes X0.here hx rfl (pc0 := 176) (pc' := 183) rfl (hb hby d1_176) rfl (feq (by decide : ¬ ((19 : Int32) = (18 : Int32)))).2 (by decide) (by decide) kz)) ?_
  obtain ⟨T185, X185, e185, st185⟩ := getS2 X0 hx hZ hown (host := "") (Or.inl (hw _ (List.mem_of_getElem? (i := 40) rfl))) Via.refl e0 P.2.2.2.2.2.2.2.2.2.2.2.2.2.2.2.2.2.2.2.2.2.2.1 (g := (mkF m 183 #[.val (.int (19 : Int32))] [])) rfl (hb hby d1_183)
  refine Goes.by st185 ?_
  show Goes p e below (T185.setTop (mkF m 186 #[.val (.int (19 : Int32))] [(.ref (w 11))])) _
  obtain ⟨fs, hr, hrun, hended, hW, hsame⟩ := X185.leave (v := some (.ref (w 11))) (fun h => by rw [Bd.returns] at h; cases h)
  exact ⟨_, _, retOut X185 hx (t := (.object "com/example/strict_credit/strictcredit/diameter/ResultCode")) Bd.returns rfl (Or.inr (Or.inr (Or.inr (Or.inr ⟨rfl, rfl, rfl⟩)))) (hb hby d1_186) hr, hrun, hended, _, _, rfl, ⟨rfl, N0, e185⟩, ⟨_, rfl⟩, hW, hsame.mono (by decide) (by decide)⟩
set_option maxRecDepth 65536 in
set_option maxHeartbeats 40000000 in
theorem r2_58 (l : Launch) (Z : State) (a0 : Array Value) (hw : ∀ d ∈ tables_1, d.before a0 Z = true) (ws : List Jvm.Cond) (h0 : Heap) (n0 : Nat) (Z0 : n0 ≤ h0.size) (w : Nat → Addr) (P : Pins Z h0 w) :
    MetFree l (⟨"com/example/strict_credit/strictcredit/diameter/ResultCode", "code", "()I"⟩ : MethodName) (head1 (Jvm.Cond.code (⟨"com/example/strict_credit/strictcredit/diameter/ResultCode", "code", "()I"⟩ : MethodName) prog_39_method_4_code 1 (some .int) :: ws) ({ frames := 0, cells := 0, slots := 0, locals := 0 } : Room)) (fun a U => a = #[(.ref (w 11))] ∧ Z.Warmed39 U.vm ∧ U.heap = h0) (fun _ _ _ _ _ => True) (fun _ U o U' => ∃ v L, o = .returned v ∧ QP (some (.int (5031 : Int32))) h0 n0 v U'.heap L ∧ FrameEnd U o U' L ({ frames := 0, cells := 0, slots := 0, locals := 0 } : Room).cells ({ frames := 0, cells := 0, slots := 0, locals := 0 } : Room).slots) := by
  refine MetFree.of_bodySF (plainFor_of_name pn1) hisR ?_
  intro p e s m args below meth c s₁ Bd hml0 hP hK
  obtain ⟨rfl, hZ, hh⟩ := hP
  have hx := Bd.exec
  have hby := Bd.bytes
  have hml : c.maxLocals = 1 := hml0
  have hown : s.vm.findClass "com/example/strict_credit/strictcredit/diameter/ResultCode" = some m.cls := findClass_of_methodNamed Bd.named
  have hnm := (name_of_methodNamed Bd.named Bd.method).1
  have X0 : Stand p l e ({ frames := 0, cells := 0, slots := 0, locals := 0 } : Room) s m #[(.ref (w 11))] below meth c s₁ [] 0 0 := Stand.of_body Bd
  have e0 : s₁.heap = h0 := by rw [← hh, Bd.state]; rfl
  have N0 := Fr.nil n0
  refine Goes.out (Goes.by (fun tz kz => castTop (ef2_R m ((w 11))) kz) ?_)
  show Goes p e below (s₁.setTop (mkF m 0 #[.val (.ref (w 11))] [])) _
  refine Goes.by (fun _ kz => XS.aloadN X0.here hx rfl (hb hby d2_0) rfl rfl kz) ?_
  obtain ⟨T191, X191, e191, st191⟩ := getF X0 hx hZ hown (host := "") (Or.inl (hw _ (List.mem_of_getElem? (i := 21) rfl))) Via.refl e0 P.2.2.2.2.2.2.2.2.2.2.2.2.2.2.2.2.2.2.2.2.2.2.2.2.2.2.2.2.2.2.2.2.2.2.2.2.2.2.2.2.2.2.2.2.2.2.2.2.2.2.2.2.2.2.2.2.2.2.2.2.2.1 (g := (mkF m 1 #[.val (.ref (w 11))] [(.ref (w 11))])) rfl rfl (hb hby d2_1)
  refine Goes.by st191 ?_
  show Goes p e below (T191.setTop (mkF m 4 #[.val (.ref (w 11))] [(.int (5031 : Int32))])) _
  obtain ⟨fs, hr, hrun, hended, hW, hsame⟩ := X191.leave (v := some (.int (5031 : Int32))) (fun h => by rw [Bd.returns] at h; cases h)
  exact ⟨_, _, retOut X191 hx (t := .int) Bd.returns rfl (Or.inl ⟨rfl, Or.inl rfl, _, rfl⟩) (hb hby d2_4) hr, hrun, hended, _, _, rfl, ⟨rfl, N0, e191⟩, ⟨_, rfl⟩, hW, hsame.mono (by decide) (by decide)⟩
set_option maxRecDepth 65536 in
set_option maxHeartbeats 40000000 in
theorem r3_59 (l : Launch) (Z : State) (a0 : Array Value) (hw : ∀ d ∈ tables_1, d.before a0 Z = true) (ws : List Jvm.Cond) (h0 : Heap) (n0 : Nat) (Z0 : n0 ≤ h0.size) (w : Nat → Addr) (P : Pins Z h0 w) :
    MetFree l (⟨"com/example/strict_credit/strictcredit/diameter/ResultCode", "isProtocolError", "()Z"⟩ : MethodName) (head1 (Jvm.Cond.code (⟨"com/example/strict_credit/strictcredit/diameter/ResultCode", "isProtocolError", "()Z"⟩ : MethodName) prog_39_method_6_code 1 (some .boolean) :: ws) ({ frames := 0, cells := 0, slots := 0, locals := 0 } : Room)) (fun a U => a = #[(.ref (w 11))] ∧ Z.Warmed39 U.vm ∧ U.heap = h0) (fun _ _ _ _ _ => True) (fun _ U o U' => ∃ v L, o = .returned v ∧ QP (some (.int (0 : Int32))) h0 n0 v U'.heap L ∧ FrameEnd U o U' L ({ frames := 0, cells := 0, slots := 0, locals := 0 } : Room).cells ({ frames := 0, cells := 0, slots := 0, locals := 0 } : Room).slots) := by
  refine MetFree.of_bodySF (plainFor_of_name pn1) hisR ?_
  intro p e s m args below meth c s₁ Bd hml0 hP hK
  obtain ⟨rfl, hZ, hh⟩ := hP
  have hx := Bd.exec
  have hby := Bd.bytes
  have hml : c.maxLocals = 1 := hml0
  have hown : s.vm.findClass "com/example/strict_credit/strictcredit/diameter/ResultCode" = some m.cls := findClass_of_methodNamed Bd.named
  have hnm := (name_of_methodNamed Bd.named Bd.method).1
  have X0 : Stand p l e ({ frames := 0, cells := 0, slots := 0, locals := 0 } : Room) s m #[(.ref (w 11))] below meth c s₁ [] 0 0 := Stand.of_body Bd
  have e0 : s₁.heap = h0 := by rw [← hh, Bd.state]; rfl
  have N0 := Fr.nil n0
  refine Goes.out (Goes.by (fun tz kz => castTop (ef3_R m ((w 11))) kz) ?_)
  show Goes p e below (s₁.setTop (mkF m 0 #[.val (.ref (w 11))] [])) _
  refine Goes.by (fun _ kz => XS.aloadN X0.here hx rfl (hb hby d3_0) rfl rfl kz) ?_
  obtain ⟨T193, X193, e193, st193⟩ := getF X0 hx hZ hown (host := "") (Or.inl (hw _ (List.mem_of_getElem? (i := 21) rfl))) Via.refl e0 P.2.2.2.2.2.2.2.2.2.2.2.2.2.2.2.2.2.2.2.2.2.2.2.2.2.2.2.2.2.2.2.2.2.2.2.2.2.2.2.2.2.2.2.2.2.2.2.2.2.2.2.2.2.2.2.2.2.2.2.2.2.1 (g := (mkF m 1 #[.val (.ref (w 11))] [(.ref (w 11))])) rfl rfl (hb hby d3_1)
  refine Goes.by st193 ?_
  refine Goes.by (fun _ kz => XS.sipush X193.here hx rfl (hb hby d3_4) (XS.idiv X193.here hx rfl (hb hby d3_7) rfl (by decide) kz)) ?_
  show Goes p e below (T193.setTop (mkF m 8 #[.val (.ref (w 11))] [(.int ((5031 : Int32) / (1000 : Int32)))])) _
  rw [show (((5031 : Int32) / (1000 : Int32)) : Int32) = (5 : Int32) from by decide]
  show Goes p e below (T193.setTop (mkF m 8 #[.val (.ref (w 11))] [(.int (5 : Int32))])) _
  refine Goes.by (fun _ kz => XS.iconst X193.here hx rfl (hb hby d3_8) (XS.icmpYes X193.here hx rfl (pc0 := 9) (pc' := 16) rfl (hb hby d3_9) rfl (feq (by decide : ¬ ((5 : Int32) = (3 : Int32)))).2 (by decide) (by decide) (XS.iconst X193.here hx rfl (hb hby d3_16) kz))) ?_
  show Goes p e below (T193.setTop (mkF m 17 #[.val (.ref (w 11))] [(.int (0 : Int32))])) _
  obtain ⟨fs, hr, hrun, hended, hW, hsame⟩ := X193.leave (v := some (.int (0 : Int32))) (fun h => by rw [Bd.returns] at h; cases h)
  exact ⟨_, _, retN X193 hx (t := .boolean) Bd.returns (by simp) (hb hby d3_17) hr, hrun, hended, _, _, rfl, ⟨rfl, N0, e193⟩, ⟨_, rfl⟩, hW, hsame.mono (by decide) (by decide)⟩
set_option maxRecDepth 65536 in
set_option maxHeartbeats 40000000 in
theorem rm0 (l : Launch) (Z : State) (a0 : Array Value) (hw : ∀ d ∈ tables_1, d.before a0 Z = true) (ws : List Jvm.Cond) (h0 : Heap) (n0 : Nat) (Z0 : n0 ≤ h0.size) (p1 : Int32) (w : Nat → Addr) (P : Pins Z h0 w) :
    MetFree l x (head1 (Jvm.Cond.code x code maxLocals ret :: ws) room_1) (fun a U => a = #[(.int p1)] ∧ Z.Warmed39 U.vm ∧ U.heap = h0) (fun _ _ _ _ _ => True) (fun _ U o U' => ∃ v L, o = .returned v ∧ QL n0 v U'.heap L ∧ FrameEnd U o U' L 0 0) := by
  refine MetFree.of_bodySF (plainFor_of_name pn0) hisR ?_
  intro p e s m args below meth c s₁ Bd hml0 hP hK
  obtain ⟨rfl, hZ, hh⟩ := hP
  have hx := Bd.exec
  have hby := Bd.bytes
  have hml : c.maxLocals = 6 := hml0
  have hown : s.vm.findClass "com/example/strict_credit/strictcredit/diameter/ResultCodeIsProtocolErrorPinLaw" = some m.cls := findClass_of_methodNamed Bd.named
  have hnm := (name_of_methodNamed Bd.named Bd.method).1
  have X0 : Stand p l e room_1 s m #[(.int p1)] below meth c s₁ [] 0 0 := Stand.of_body Bd
  have e0 : s₁.heap = h0 := by rw [← hh, Bd.state]; rfl
  have N0 := Fr.nil n0
  refine Goes.out (Goes.by (fun tz kz => castTop (ef0_I m p1) kz) ?_)
  show Goes p e below (s₁.setTop (mkF m 0 #[.val (.int p1), .unset, .unset, .unset, .unset, .unset] [])) _
  refine Goes.by (fun _ kz => XS.iloadN X0.here hx rfl (hb hby at_0) rfl (X0.ldcInt hx hown (mvT hZ (hw _ (List.mem_of_getElem? (i := 0) rfl))) (g := (mkF m 1 #[.val (.int p1), .unset, .unset, .unset, .unset, .unset] [(.int p1)])) rfl (hb hby at_1) _ (XS.iand X0.here hx rfl (hb hby at_3) rfl kz))) ?_
  show Goes p e below (s₁.setTop (mkF m 4 #[.val (.int p1), .unset, .unset, .unset, .unset, .unset] [(.int (p1 &&& (2147483647 : Int32)))])) _
  refine Goes.by (fun _ kz => XS.bipush X0.here hx rfl (hb hby at_4) (iremM X0 hx rfl (hb hby at_6) rfl (by decide) (XS.istoreN X0.here hx rfl (hb hby at_7) rfl (l' := #[.val (.int p1), .val (.int ((p1 &&& (2147483647 : Int32)) % (20 : Int32))), .unset, .unset, .unset, .unset]) rfl kz))) ?_
  show Goes p e below (s₁.setTop (mkF m 8 #[.val (.int p1), .val (.int ((p1 &&& (2147483647 : Int32)) % (20 : Int32))), .unset, .unset, .unset, .unset] [])) _
  have hsi := own_split p1
  obtain ⟨i, hi⟩ : ∃ z, z = ((p1 &&& (2147483647 : Int32)) % (20 : Int32)) := ⟨_, rfl⟩
  rw [← hi] at hsi ⊢
  rcases hsi with rfl | rfl | rfl | rfl | rfl | rfl | rfl | rfl | rfl | rfl | rfl | rfl | rfl | rfl | rfl | rfl | rfl | rfl | rfl | rfl
  · show Goes p e below (s₁.setTop (mkF m 8 #[.val (.int p1), .val (.int (0 : Int32)), .unset, .unset, .unset, .unset] [])) _
    refine Goes.by (fun _ kz => XS.iloadN X0.here hx rfl (hb hby at_8) rfl kz) ?_
    obtain ⟨_, _, ⟨T2, L2, k2, n2⟩, -, X2, ⟨Lc2, hQ2, l2, y2, z2⟩, st2⟩ := Jvm.LawKit.callS X0 hx (y := (⟨"com/example/strict_credit/strictcredit/diameter/ResultCodeIsProtocolErrorPinLaw", "pick", "(I)Lcom/example/strict_credit/strictcredit/diameter/ResultCode;"⟩ : MethodName)) hown (mvT hZ (hw _ (List.mem_of_getElem? (i := 1) rfl))) (mvT hZ (hw _ (List.mem_of_getElem? (i := 2) rfl))) (mvT hZ (hw _ (List.mem_of_getElem? (i := 3) rfl))) (mvT hZ (hw _ (List.mem_of_getElem? (i := 4) rfl))) (by decide) (backOf (W := 0) (r1_0 l Z a0 hw [] h0 n0 Z0 w P) hZ (hw _ (List.mem_of_getElem? (i := 4) rfl)) (hw _ (List.mem_of_getElem? (i := 3) rfl)) (by decide) (by decide)) (g := (mkF m 9 #[.val (.int p1), .val (.int (0 : Int32)), .unset, .unset, .unset, .unset] [(.int (0 : Int32))])) rfl (by rw [hml]; rfl) (argsL := [(.int (0 : Int32))]) (rest := []) (lenOf pd0 rfl) rfl (by show 2 * 0 + _ ≤ _; exact Nat.le_of_eq rfl) (hb hby at_9) (fun _ _ => ⟨rfl, e0, (by decide : 0 + 0 ≤ _), (by decide : 0 + 0 ≤ _)⟩)
    dsimp only [Pt.U, Pt.locs, Pt.cells, Pt.slots] at X2 l2 y2 z2 st2 hQ2
    subst l2 y2 z2
    obtain ⟨rfl, Nq2, e2⟩ := hQ2
    have N2 := Fr.app N0 Nq2
    refine Goes.by st2 ?_
    refine Goes.by (fun _ kz => XS.astoreN X2.here hx rfl (hb hby at_12) rfl rfl (l' := #[.val (.int p1), .val (.int (0 : Int32)), .val (.ref (w 0)), .unset, .unset, .unset]) rfl (XS.aloadN X2.here hx rfl (hb hby at_13) rfl rfl kz)) ?_
    obtain ⟨T3, X3, e3, st3⟩ := getS2 X2 hx hZ hown (host := "") (Or.inl (hw _ (List.mem_of_getElem? (i := 8) rfl))) Via.refl e2 P.2.2.1 (g := (mkF m 14 #[.val (.int p1), .val (.int (0 : Int32)), .val (.ref (w 0)), .unset, .unset, .unset] [(.ref (w 0))])) rfl (hb hby at_14)
    refine Goes.by st3 ?_
    refine Goes.by (fun _ kz => Jvm.RoadKit.acmp (g := (mkF m 17 #[.val (.int p1), .val (.int (0 : Int32)), .val (.ref (w 0)), .unset, .unset, .unset] [(.ref (w 1)), (.ref (w 0))])) X3 hx rfl rfl rfl (pc0 := 17) (pc' := 20) (same := false) rfl (hb hby at_17) rfl (decide_eq_false fun q => (own_ne_0_1 P) (Value.ref.inj q)) (by decide) (by decide) (XS.aloadN X3.here hx rfl (hb hby at_20) rfl rfl kz)) ?_
    obtain ⟨T4, X4, e4, st4⟩ := getS2 X3 hx hZ hown (host := "") (Or.inl (hw _ (List.mem_of_getElem? (i := 10) rfl))) Via.refl e3 P.2.2.2.2.1 (g := (mkF m 21 #[.val (.int p1), .val (.int (0 : Int32)), .val (.ref (w 0)), .unset, .unset, .unset] [(.ref (w 0))])) rfl (hb hby at_21)
    refine Goes.by st4 ?_
    refine Goes.by (fun _ kz => Jvm.RoadKit.acmp (g := (mkF m 24 #[.val (.int p1), .val (.int (0 : Int32)), .val (.ref (w 0)), .unset, .unset, .unset] [(.ref (w 2)), (.ref (w 0))])) X4 hx rfl rfl rfl (pc0 := 24) (pc' := 27) (same := false) rfl (hb hby at_24) rfl (decide_eq_false fun q => (own_ne_0_2 P) (Value.ref.inj q)) (by decide) (by decide) (XS.aloadN X4.here hx rfl (hb hby at_27) rfl rfl kz)) ?_
    obtain ⟨T5, X5, e5, st5⟩ := getS2 X4 hx hZ hown (host := "") (Or.inl (hw _ (List.mem_of_getElem? (i := 12) rfl))) Via.refl e4 P.2.2.2.2.2.2.1 (g := (mkF m 28 #[.val (.int p1), .val (.int (0 : Int32)), .val (.ref (w 0)), .unset, .unset, .unset] [(.ref (w 0))])) rfl (hb hby at_28)
    refine Goes.by st5 ?_
    refine Goes.by (fun _ kz => Jvm.RoadKit.acmp (g := (mkF m 31 #[.val (.int p1), .val (.int (0 : Int32)), .val (.ref (w 0)), .unset, .unset, .unset] [(.ref (w 3)), (.ref (w 0))])) X5 hx rfl rfl rfl (pc0 := 31) (pc' := 34) (same := false) rfl (hb hby at_31) rfl (decide_eq_false fun q => (own_ne_0_3 P) (Value.ref.inj q)) (by decide) (by decide) (XS.aloadN X5.here hx rfl (hb hby at_34) rfl rfl kz)) ?_
    obtain ⟨T6, X6, e6, st6⟩ := getS2 X5 hx hZ hown (host := "") (Or.inl (hw _ (List.mem_of_getElem? (i := 14) rfl))) Via.refl e5 P.2.2.2.2.2.2.2.2.1 (g := (mkF m 35 #[.val (.int p1), .val (.int (0 : Int32)), .val (.ref (w 0)), .unset, .unset, .unset] [(.ref (w 0))])) rfl (hb hby at_35)
    refine Goes.by st6 ?_
    refine Goes.by (fun _ kz => Jvm.RoadKit.acmp (g := (mkF m 38 #[.val (.int p1), .val (.int (0 : Int32)), .val (.ref (w 0)), .unset, .unset, .unset] [(.ref (w 4)), (.ref (w 0))])) X6 hx rfl rfl rfl (pc0 := 38) (pc' := 45) (same := false) rfl (hb hby at_38) rfl (decide_eq_false fun q => (own_ne_0_4 P) (Value.ref.inj q)) (by decide) (by decide) (XS.iconst X6.here hx rfl (hb hby at_45) (XS.istoreN X6.here hx rfl (hb hby at_46) rfl (l' := #[.val (.int p1), .val (.int (0 : Int32)), .val (.ref (w 0)), .val (.int (0 : Int32)), .unset, .unset]) rfl kz))) ?_
    show Goes p e below (T6.setTop (mkF m 47 #[.val (.int p1), .val (.int (0 : Int32)), .val (.ref (w 0)), .val (.int (0 : Int32)), .unset, .unset] [])) _
    refine Goes.by (fun _ kz => XS.aloadN X6.here hx rfl (hb hby at_47) rfl rfl kz) ?_
    obtain ⟨cq8, kq8, q8a, q8b, q8c⟩ := isOf hZ e6 P.2.1
    obtain ⟨_, _, ⟨T8, L8, k8, n8⟩, -, X8, ⟨Lc8, hQ8, l8, y8, z8⟩, st8⟩ := X6.virtualBack hx (y := (⟨"com/example/strict_credit/strictcredit/diameter/ResultCode", "code", "()I"⟩ : MethodName)) (z := (⟨"com/example/strict_credit/strictcredit/diameter/ResultCode", "code", "()I"⟩ : MethodName)) hown (mvT hZ (hw _ (List.mem_of_getElem? (i := 16) rfl))) (mvT hZ (hw _ (List.mem_of_getElem? (i := 17) rfl))) (notFace_of_selects (args := #[]) (mvT hZ (hw _ (List.mem_of_getElem? (i := 19) rfl)))) (mvT hZ (hw _ (List.mem_of_getElem? (i := 19) rfl))) (mvT hZ (hw _ (List.mem_of_getElem? (i := 18) rfl))) (by decide) (backOf (W := 0) (r2_1 l Z a0 hw [] h0 n0 Z0 w P) hZ (hw _ (List.mem_of_getElem? (i := 20) rfl)) (hw _ (List.mem_of_getElem? (i := 6) rfl)) (by decide) (by decide)) q8a q8c (g := (mkF m 48 #[.val (.int p1), .val (.int (0 : Int32)), .val (.ref (w 0)), .val (.int (0 : Int32)), .unset, .unset] [(.ref (w 0))])) rfl (by rw [hml]; rfl) (Steps.refl _) (argsL := []) (rest := []) (lenOf pd1 rfl) rfl (by show 2 * 0 + _ ≤ _; exact Nat.le_of_eq rfl) (hb hby at_48) (fun _ _ => ⟨rfl, e6, (by decide : 0 + 0 ≤ _), (by decide : 0 + 0 ≤ _)⟩)
    dsimp only [Pt.U, Pt.locs, Pt.cells, Pt.slots] at X8 l8 y8 z8 st8 hQ8
    subst l8 y8 z8
    obtain ⟨rfl, Nq8, e8⟩ := hQ8
    have N8 := Fr.app N2 Nq8
    refine Goes.tr st8 ?_
    refine Goes.by (fun _ kz => XS.istore X8.here hx rfl (hb hby at_51) rfl (l' := #[.val (.int p1), .val (.int (0 : Int32)), .val (.ref (w 0)), .val (.int (0 : Int32)), .val (.int (2001 : Int32)), .unset]) rfl (XS.iload X8.here hx rfl (hb hby at_53) rfl (XS.sipush X8.here hx rfl (hb hby at_55) kz))) ?_
    show Goes p e below (T8.setTop (mkF m 58 #[.val (.int p1), .val (.int (0 : Int32)), .val (.ref (w 0)), .val (.int (0 : Int32)), .val (.int (2001 : Int32)), .unset] [(.int (3000 : Int32)), (.int (2001 : Int32))])) _
    refine Goes.by (fun _ kz => XS.icmpYes X8.here hx rfl (pc0 := 58) (pc' := 73) rfl (hb hby at_58) rfl (tlt (by decide : (2001 : Int32) < (3000 : Int32))).1 (by decide) (by decide) (XS.iconst X8.here hx rfl (hb hby at_73) (XS.istore X8.here hx rfl (hb hby at_74) rfl (l' := #[.val (.int p1), .val (.int (0 : Int32)), .val (.ref (w 0)), .val (.int (0 : Int32)), .val (.int (2001 : Int32)), .val (.int (0 : Int32))]) rfl kz))) ?_
    show Goes p e below (T8.setTop (mkF m 76 #[.val (.int p1), .val (.int (0 : Int32)), .val (.ref (w 0)), .val (.int (0 : Int32)), .val (.int (2001 : Int32)), .val (.int (0 : Int32))] [])) _
    refine Goes.by (fun _ kz => XS.aloadN X8.here hx rfl (hb hby at_76) rfl rfl kz) ?_
    obtain ⟨cq10, kq10, q10a, q10b, q10c⟩ := isOf hZ e8 P.2.1
    obtain ⟨_, _, ⟨T10, L10, k10, n10⟩, -, X10, ⟨Lc10, hQ10, l10, y10, z10⟩, st10⟩ := X8.virtualBack hx (y := (⟨"com/example/strict_credit/strictcredit/diameter/ResultCode", "isProtocolError", "()Z"⟩ : MethodName)) (z := (⟨"com/example/strict_credit/strictcredit/diameter/ResultCode", "isProtocolError", "()Z"⟩ : MethodName)) hown (mvT hZ (hw _ (List.mem_of_getElem? (i := 23) rfl))) (mvT hZ (hw _ (List.mem_of_getElem? (i := 24) rfl))) (notFace_of_selects (args := #[]) (mvT hZ (hw _ (List.mem_of_getElem? (i := 26) rfl)))) (mvT hZ (hw _ (List.mem_of_getElem? (i := 26) rfl))) (mvT hZ (hw _ (List.mem_of_getElem? (i := 25) rfl))) (by decide) (backOf (W := 0) (r3_2 l Z a0 hw [] h0 n0 Z0 w P) hZ (hw _ (List.mem_of_getElem? (i := 27) rfl)) (hw _ (List.mem_of_getElem? (i := 6) rfl)) (by decide) (by decide)) q10a q10c (g := (mkF m 77 #[.val (.int p1), .val (.int (0 : Int32)), .val (.ref (w 0)), .val (.int (0 : Int32)), .val (.int (2001 : Int32)), .val (.int (0 : Int32))] [(.ref (w 0))])) rfl (by rw [hml]; rfl) (Steps.refl _) (argsL := []) (rest := []) (lenOf pd2 rfl) rfl (by show 2 * 0 + _ ≤ _; exact Nat.le_of_eq rfl) (hb hby at_77) (fun _ _ => ⟨rfl, e8, (by decide : 0 + 0 ≤ _), (by decide : 0 + 0 ≤ _)⟩)
    dsimp only [Pt.U, Pt.locs, Pt.cells, Pt.slots] at X10 l10 y10 z10 st10 hQ10
    subst l10 y10 z10
    obtain ⟨rfl, Nq10, e10⟩ := hQ10
    have N10 := Fr.app N8 Nq10
    refine Goes.tr st10 ?_
    refine Goes.by (fun _ kz => XS.iloadN X10.here hx rfl (hb hby at_80) rfl (XS.icmpNo X10.here hx rfl (hb hby at_81) rfl (teq (by decide : (0 : Int32) = (0 : Int32))).2 (XS.iloadN X10.here hx rfl (hb hby at_84) rfl kz))) ?_
    show Goes p e below (T10.setTop (mkF m 85 #[.val (.int p1), .val (.int (0 : Int32)), .val (.ref (w 0)), .val (.int (0 : Int32)), .val (.int (2001 : Int32)), .val (.int (0 : Int32))] [(.int (0 : Int32))])) _
    refine Goes.by (fun _ kz => XS.iload X10.here hx rfl (hb hby at_85) rfl (XS.icmpNo X10.here hx rfl (hb hby at_87) rfl (teq (by decide : (0 : Int32) = (0 : Int32))).2 (XS.iconst X10.here hx rfl (hb hby at_90) kz))) ?_
    show Goes p e below (T10.setTop (mkF m 91 #[.val (.int p1), .val (.int (0 : Int32)), .val (.ref (w 0)), .val (.int (0 : Int32)), .val (.int (2001 : Int32)), .val (.int (0 : Int32))] [(.int (1 : Int32))])) _
    refine Goes.by (fun _ kz => XS.goto X10.here hx rfl (pc0 := 91) (pc' := 95) rfl (hb hby at_91) (by decide) (by decide) kz) ?_
    show Goes p e below (T10.setTop (mkF m 95 #[.val (.int p1), .val (.int (0 : Int32)), .val (.ref (w 0)), .val (.int (0 : Int32)), .val (.int (2001 : Int32)), .val (.int (0 : Int32))] [(.int (1 : Int32))])) _
    obtain ⟨fs, hr, hrun, hended, hW, hsame⟩ := X10.leave (v := some (.int (1 : Int32))) (fun h => by rw [Bd.returns] at h; cases h)
    exact ⟨_, _, retN X10 hx (t := .boolean) Bd.returns (by simp) (hb hby at_95) hr, hrun, hended, _, _, rfl, ⟨rfl, N10⟩, ⟨_, rfl⟩, hW, hsame.mono (by decide) (by decide)⟩
  · show Goes p e below (s₁.setTop (mkF m 8 #[.val (.int p1), .val (.int (1 : Int32)), .unset, .unset, .unset, .unset] [])) _
    refine Goes.by (fun _ kz => XS.iloadN X0.here hx rfl (hb hby at_8) rfl kz) ?_
    obtain ⟨_, _, ⟨T12, L12, k12, n12⟩, -, X12, ⟨Lc12, hQ12, l12, y12, z12⟩, st12⟩ := Jvm.LawKit.callS X0 hx (y := (⟨"com/example/strict_credit/strictcredit/diameter/ResultCodeIsProtocolErrorPinLaw", "pick", "(I)Lcom/example/strict_credit/strictcredit/diameter/ResultCode;"⟩ : MethodName)) hown (mvT hZ (hw _ (List.mem_of_getElem? (i := 1) rfl))) (mvT hZ (hw _ (List.mem_of_getElem? (i := 2) rfl))) (mvT hZ (hw _ (List.mem_of_getElem? (i := 3) rfl))) (mvT hZ (hw _ (List.mem_of_getElem? (i := 4) rfl))) (by decide) (backOf (W := 0) (r1_3 l Z a0 hw [] h0 n0 Z0 w P) hZ (hw _ (List.mem_of_getElem? (i := 4) rfl)) (hw _ (List.mem_of_getElem? (i := 3) rfl)) (by decide) (by decide)) (g := (mkF m 9 #[.val (.int p1), .val (.int (1 : Int32)), .unset, .unset, .unset, .unset] [(.int (1 : Int32))])) rfl (by rw [hml]; rfl) (argsL := [(.int (1 : Int32))]) (rest := []) (lenOf pd0 rfl) rfl (by show 2 * 0 + _ ≤ _; exact Nat.le_of_eq rfl) (hb hby at_9) (fun _ _ => ⟨rfl, e0, (by decide : 0 + 0 ≤ _), (by decide : 0 + 0 ≤ _)⟩)
    dsimp only [Pt.U, Pt.locs, Pt.cells, Pt.slots] at X12 l12 y12 z12 st12 hQ12
    subst l12 y12 z12
    obtain ⟨rfl, Nq12, e12⟩ := hQ12
    have N12 := Fr.app N0 Nq12
    refine Goes.by st12 ?_
    refine Goes.by (fun _ kz => XS.astoreN X12.here hx rfl (hb hby at_12) rfl rfl (l' := #[.val (.int p1), .val (.int (1 : Int32)), .val (.ref (w 10)), .unset, .unset, .unset]) rfl (XS.aloadN X12.here hx rfl (hb hby at_13) rfl rfl kz)) ?_
    obtain ⟨T13, X13, e13, st13⟩ := getS2 X12 hx hZ hown (host := "") (Or.inl (hw _ (List.mem_of_getElem? (i := 8) rfl))) Via.refl e12 P.2.2.1 (g := (mkF m 14 #[.val (.int p1), .val (.int (1 : Int32)), .val (.ref (w 10)), .unset, .unset, .unset] [(.ref (w 10))])) rfl (hb hby at_14)
    refine Goes.by st13 ?_
    refine Goes.by (fun _ kz => Jvm.RoadKit.acmp (g := (mkF m 17 #[.val (.int p1), .val (.int (1 : Int32)), .val (.ref (w 10)), .unset, .unset, .unset] [(.ref (w 1)), (.ref (w 10))])) X13 hx rfl rfl rfl (pc0 := 17) (pc' := 20) (same := false) rfl (hb hby at_17) rfl (decide_eq_false fun q => (Ne.symm (own_ne_1_10 P)) (Value.ref.inj q)) (by decide) (by decide) (XS.aloadN X13.here hx rfl (hb hby at_20) rfl rfl kz)) ?_
    obtain ⟨T14, X14, e14, st14⟩ := getS2 X13 hx hZ hown (host := "") (Or.inl (hw _ (List.mem_of_getElem? (i := 10) rfl))) Via.refl e13 P.2.2.2.2.1 (g := (mkF m 21 #[.val (.int p1), .val (.int (1 : Int32)), .val (.ref (w 10)), .unset, .unset, .unset] [(.ref (w 10))])) rfl (hb hby at_21)
    refine Goes.by st14 ?_
    refine Goes.by (fun _ kz => Jvm.RoadKit.acmp (g := (mkF m 24 #[.val (.int p1), .val (.int (1 : Int32)), .val (.ref (w 10)), .unset, .unset, .unset] [(.ref (w 2)), (.ref (w 10))])) X14 hx rfl rfl rfl (pc0 := 24) (pc' := 27) (same := false) rfl (hb hby at_24) rfl (decide_eq_false fun q => (Ne.symm (own_ne_2_10 P)) (Value.ref.inj q)) (by decide) (by decide) (XS.aloadN X14.here hx rfl (hb hby at_27) rfl rfl kz)) ?_
    obtain ⟨T15, X15, e15, st15⟩ := getS2 X14 hx hZ hown (host := "") (Or.inl (hw _ (List.mem_of_getElem? (i := 12) rfl))) Via.refl e14 P.2.2.2.2.2.2.1 (g := (mkF m 28 #[.val (.int p1), .val (.int (1 : Int32)), .val (.ref (w 10)), .unset, .unset, .unset] [(.ref (w 10))])) rfl (hb hby at_28)
    refine Goes.by st15 ?_
    refine Goes.by (fun _ kz => Jvm.RoadKit.acmp (g := (mkF m 31 #[.val (.int p1), .val (.int (1 : Int32)), .val (.ref (w 10)), .unset, .unset, .unset] [(.ref (w 3)), (.ref (w 10))])) X15 hx rfl rfl rfl (pc0 := 31) (pc' := 34) (same := false) rfl (hb hby at_31) rfl (decide_eq_false fun q => (Ne.symm (own_ne_3_10 P)) (Value.ref.inj q)) (by decide) (by decide) (XS.aloadN X15.here hx rfl (hb hby at_34) rfl rfl kz)) ?_
    obtain ⟨T16, X16, e16, st16⟩ := getS2 X15 hx hZ hown (host := "") (Or.inl (hw _ (List.mem_of_getElem? (i := 14) rfl))) Via.refl e15 P.2.2.2.2.2.2.2.2.1 (g := (mkF m 35 #[.val (.int p1), .val (.int (1 : Int32)), .val (.ref (w 10)), .unset, .unset, .unset] [(.ref (w 10))])) rfl (hb hby at_35)
    refine Goes.by st16 ?_
    refine Goes.by (fun _ kz => Jvm.RoadKit.acmp (g := (mkF m 38 #[.val (.int p1), .val (.int (1 : Int32)), .val (.ref (w 10)), .unset, .unset, .unset] [(.ref (w 4)), (.ref (w 10))])) X16 hx rfl rfl rfl (pc0 := 38) (pc' := 45) (same := false) rfl (hb hby at_38) rfl (decide_eq_false fun q => (Ne.symm (own_ne_4_10 P)) (Value.ref.inj q)) (by decide) (by decide) (XS.iconst X16.here hx rfl (hb hby at_45) (XS.istoreN X16.here hx rfl (hb hby at_46) rfl (l' := #[.val (.int p1), .val (.int (1 : Int32)), .val (.ref (w 10)), .val (.int (0 : Int32)), .unset, .unset]) rfl kz))) ?_
    show Goes p e below (T16.setTop (mkF m 47 #[.val (.int p1), .val (.int (1 : Int32)), .val (.ref (w 10)), .val (.int (0 : Int32)), .unset, .unset] [])) _
    refine Goes.by (fun _ kz => XS.aloadN X16.here hx rfl (hb hby at_47) rfl rfl kz) ?_
    obtain ⟨cq18, kq18, q18a, q18b, q18c⟩ := isOf hZ e16 P.2.2.2.2.2.2.2.2.2.2.2.2.2.2.2.2.2.2.2.2.2.1
    obtain ⟨_, _, ⟨T18, L18, k18, n18⟩, -, X18, ⟨Lc18, hQ18, l18, y18, z18⟩, st18⟩ := X16.virtualBack hx (y := (⟨"com/example/strict_credit/strictcredit/diameter/ResultCode", "code", "()I"⟩ : MethodName)) (z := (⟨"com/example/strict_credit/strictcredit/diameter/ResultCode", "code", "()I"⟩ : MethodName)) hown (mvT hZ (hw _ (List.mem_of_getElem? (i := 16) rfl))) (mvT hZ (hw _ (List.mem_of_getElem? (i := 17) rfl))) (notFace_of_selects (args := #[]) (mvT hZ (hw _ (List.mem_of_getElem? (i := 19) rfl)))) (mvT hZ (hw _ (List.mem_of_getElem? (i := 19) rfl))) (mvT hZ (hw _ (List.mem_of_getElem? (i := 18) rfl))) (by decide) (backOf (W := 0) (r2_4 l Z a0 hw [] h0 n0 Z0 w P) hZ (hw _ (List.mem_of_getElem? (i := 20) rfl)) (hw _ (List.mem_of_getElem? (i := 6) rfl)) (by decide) (by decide)) q18a q18c (g := (mkF m 48 #[.val (.int p1), .val (.int (1 : Int32)), .val (.ref (w 10)), .val (.int (0 : Int32)), .unset, .unset] [(.ref (w 10))])) rfl (by rw [hml]; rfl) (Steps.refl _) (argsL := []) (rest := []) (lenOf pd1 rfl) rfl (by show 2 * 0 + _ ≤ _; exact Nat.le_of_eq rfl) (hb hby at_48) (fun _ _ => ⟨rfl, e16, (by decide : 0 + 0 ≤ _), (by decide : 0 + 0 ≤ _)⟩)
    dsimp only [Pt.U, Pt.locs, Pt.cells, Pt.slots] at X18 l18 y18 z18 st18 hQ18
    subst l18 y18 z18
    obtain ⟨rfl, Nq18, e18⟩ := hQ18
    have N18 := Fr.app N12 Nq18
    refine Goes.tr st18 ?_
    refine Goes.by (fun _ kz => XS.istore X18.here hx rfl (hb hby at_51) rfl (l' := #[.val (.int p1), .val (.int (1 : Int32)), .val (.ref (w 10)), .val (.int (0 : Int32)), .val (.int (2002 : Int32)), .unset]) rfl (XS.iload X18.here hx rfl (hb hby at_53) rfl (XS.sipush X18.here hx rfl (hb hby at_55) kz))) ?_
    show Goes p e below (T18.setTop (mkF m 58 #[.val (.int p1), .val (.int (1 : Int32)), .val (.ref (w 10)), .val (.int (0 : Int32)), .val (.int (2002 : Int32)), .unset] [(.int (3000 : Int32)), (.int (2002 : Int32))])) _
    refine Goes.by (fun _ kz => XS.icmpYes X18.here hx rfl (pc0 := 58) (pc' := 73) rfl (hb hby at_58) rfl (tlt (by decide : (2002 : Int32) < (3000 : Int32))).1 (by decide) (by decide) (XS.iconst X18.here hx rfl (hb hby at_73) (XS.istore X18.here hx rfl (hb hby at_74) rfl (l' := #[.val (.int p1), .val (.int (1 : Int32)), .val (.ref (w 10)), .val (.int (0 : Int32)), .val (.int (2002 : Int32)), .val (.int (0 : Int32))]) rfl kz))) ?_
    show Goes p e below (T18.setTop (mkF m 76 #[.val (.int p1), .val (.int (1 : Int32)), .val (.ref (w 10)), .val (.int (0 : Int32)), .val (.int (2002 : Int32)), .val (.int (0 : Int32))] [])) _
    refine Goes.by (fun _ kz => XS.aloadN X18.here hx rfl (hb hby at_76) rfl rfl kz) ?_
    obtain ⟨cq20, kq20, q20a, q20b, q20c⟩ := isOf hZ e18 P.2.2.2.2.2.2.2.2.2.2.2.2.2.2.2.2.2.2.2.2.2.1
    obtain ⟨_, _, ⟨T20, L20, k20, n20⟩, -, X20, ⟨Lc20, hQ20, l20, y20, z20⟩, st20⟩ := X18.virtualBack hx (y := (⟨"com/example/strict_credit/strictcredit/diameter/ResultCode", "isProtocolError", "()Z"⟩ : MethodName)) (z := (⟨"com/example/strict_credit/strictcredit/diameter/ResultCode", "isProtocolError", "()Z"⟩ : MethodName)) hown (mvT hZ (hw _ (List.mem_of_getElem? (i := 23) rfl))) (mvT hZ (hw _ (List.mem_of_getElem? (i := 24) rfl))) (notFace_of_selects (args := #[]) (mvT hZ (hw _ (List.mem_of_getElem? (i := 26) rfl)))) (mvT hZ (hw _ (List.mem_of_getElem? (i := 26) rfl))) (mvT hZ (hw _ (List.mem_of_getElem? (i := 25) rfl))) (by decide) (backOf (W := 0) (r3_5 l Z a0 hw [] h0 n0 Z0 w P) hZ (hw _ (List.mem_of_getElem? (i := 27) rfl)) (hw _ (List.mem_of_getElem? (i := 6) rfl)) (by decide) (by decide)) q20a q20c (g := (mkF m 77 #[.val (.int p1), .val (.int (1 : Int32)), .val (.ref (w 10)), .val (.int (0 : Int32)), .val (.int (2002 : Int32)), .val (.int (0 : Int32))] [(.ref (w 10))])) rfl (by rw [hml]; rfl) (Steps.refl _) (argsL := []) (rest := []) (lenOf pd2 rfl) rfl (by show 2 * 0 + _ ≤ _; exact Nat.le_of_eq rfl) (hb hby at_77) (fun _ _ => ⟨rfl, e18, (by decide : 0 + 0 ≤ _), (by decide : 0 + 0 ≤ _)⟩)
    dsimp only [Pt.U, Pt.locs, Pt.cells, Pt.slots] at X20 l20 y20 z20 st20 hQ20
    subst l20 y20 z20
    obtain ⟨rfl, Nq20, e20⟩ := hQ20
    have N20 := Fr.app N18 Nq20
    refine Goes.tr st20 ?_
    refine Goes.by (fun _ kz => XS.iloadN X20.here hx rfl (hb hby at_80) rfl (XS.icmpNo X20.here hx rfl (hb hby at_81) rfl (teq (by decide : (0 : Int32) = (0 : Int32))).2 (XS.iloadN X20.here hx rfl (hb hby at_84) rfl kz))) ?_
    show Goes p e below (T20.setTop (mkF m 85 #[.val (.int p1), .val (.int (1 : Int32)), .val (.ref (w 10)), .val (.int (0 : Int32)), .val (.int (2002 : Int32)), .val (.int (0 : Int32))] [(.int (0 : Int32))])) _
    refine Goes.by (fun _ kz => XS.iload X20.here hx rfl (hb hby at_85) rfl (XS.icmpNo X20.here hx rfl (hb hby at_87) rfl (teq (by decide : (0 : Int32) = (0 : Int32))).2 (XS.iconst X20.here hx rfl (hb hby at_90) kz))) ?_
    show Goes p e below (T20.setTop (mkF m 91 #[.val (.int p1), .val (.int (1 : Int32)), .val (.ref (w 10)), .val (.int (0 : Int32)), .val (.int (2002 : Int32)), .val (.int (0 : Int32))] [(.int (1 : Int32))])) _
    refine Goes.by (fun _ kz => XS.goto X20.here hx rfl (pc0 := 91) (pc' := 95) rfl (hb hby at_91) (by decide) (by decide) kz) ?_
    show Goes p e below (T20.setTop (mkF m 95 #[.val (.int p1), .val (.int (1 : Int32)), .val (.ref (w 10)), .val (.int (0 : Int32)), .val (.int (2002 : Int32)), .val (.int (0 : Int32))] [(.int (1 : Int32))])) _
    obtain ⟨fs, hr, hrun, hended, hW, hsame⟩ := X20.leave (v := some (.int (1 : Int32))) (fun h => by rw [Bd.returns] at h; cases h)
    exact ⟨_, _, retN X20 hx (t := .boolean) Bd.returns (by simp) (hb hby at_95) hr, hrun, hended, _, _, rfl, ⟨rfl, N20⟩, ⟨_, rfl⟩, hW, hsame.mono (by decide) (by decide)⟩
  · show Goes p e below (s₁.setTop (mkF m 8 #[.val (.int p1), .val (.int (2 : Int32)), .unset, .unset, .unset, .unset] [])) _
    refine Goes.by (fun _ kz => XS.iloadN X0.here hx rfl (hb hby at_8) rfl kz) ?_
    obtain ⟨_, _, ⟨T22, L22, k22, n22⟩, -, X22, ⟨Lc22, hQ22, l22, y22, z22⟩, st22⟩ := Jvm.LawKit.callS X0 hx (y := (⟨"com/example/strict_credit/strictcredit/diameter/ResultCodeIsProtocolErrorPinLaw", "pick", "(I)Lcom/example/strict_credit/strictcredit/diameter/ResultCode;"⟩ : MethodName)) hown (mvT hZ (hw _ (List.mem_of_getElem? (i := 1) rfl))) (mvT hZ (hw _ (List.mem_of_getElem? (i := 2) rfl))) (mvT hZ (hw _ (List.mem_of_getElem? (i := 3) rfl))) (mvT hZ (hw _ (List.mem_of_getElem? (i := 4) rfl))) (by decide) (backOf (W := 0) (r1_6 l Z a0 hw [] h0 n0 Z0 w P) hZ (hw _ (List.mem_of_getElem? (i := 4) rfl)) (hw _ (List.mem_of_getElem? (i := 3) rfl)) (by decide) (by decide)) (g := (mkF m 9 #[.val (.int p1), .val (.int (2 : Int32)), .unset, .unset, .unset, .unset] [(.int (2 : Int32))])) rfl (by rw [hml]; rfl) (argsL := [(.int (2 : Int32))]) (rest := []) (lenOf pd0 rfl) rfl (by show 2 * 0 + _ ≤ _; exact Nat.le_of_eq rfl) (hb hby at_9) (fun _ _ => ⟨rfl, e0, (by decide : 0 + 0 ≤ _), (by decide : 0 + 0 ≤ _)⟩)
    dsimp only [Pt.U, Pt.locs, Pt.cells, Pt.slots] at X22 l22 y22 z22 st22 hQ22
    subst l22 y22 z22
    obtain ⟨rfl, Nq22, e22⟩ := hQ22
    have N22 := Fr.app N0 Nq22
    refine Goes.by st22 ?_
    refine Goes.by (fun _ kz => XS.astoreN X22.here hx rfl (hb hby at_12) rfl rfl (l' := #[.val (.int p1), .val (.int (2 : Int32)), .val (.ref (w 1)), .unset, .unset, .unset]) rfl (XS.aloadN X22.here hx rfl (hb hby at_13) rfl rfl kz)) ?_
    obtain ⟨T23, X23, e23, st23⟩ := getS2 X22 hx hZ hown (host := "") (Or.inl (hw _ (List.mem_of_getElem? (i := 8) rfl))) Via.refl e22 P.2.2.1 (g := (mkF m 14 #[.val (.int p1), .val (.int (2 : Int32)), .val (.ref (w 1)), .unset, .unset, .unset] [(.ref (w 1))])) rfl (hb hby at_14)
    refine Goes.by st23 ?_
    refine Goes.by (fun _ kz => Jvm.RoadKit.acmp (g := (mkF m 17 #[.val (.int p1), .val (.int (2 : Int32)), .val (.ref (w 1)), .unset, .unset, .unset] [(.ref (w 1)), (.ref (w 1))])) X23 hx rfl rfl rfl (pc0 := 17) (pc' := 41) (same := true) rfl (hb hby at_17) rfl (decide_eq_true rfl) (by decide) (by decide) (XS.iconst X23.here hx rfl (hb hby at_41) (XS.goto X23.here hx rfl (pc0 := 42) (pc' := 46) rfl (hb hby at_42) (by decide) (by decide) kz))) ?_
    show Goes p e below (T23.setTop (mkF m 46 #[.val (.int p1), .val (.int (2 : Int32)), .val (.ref (w 1)), .unset, .unset, .unset] [(.int (1 : Int32))])) _
    refine Goes.by (fun _ kz => XS.istoreN X23.here hx rfl (hb hby at_46) rfl (l' := #[.val (.int p1), .val (.int (2 : Int32)), .val (.ref (w 1)), .val (.int (1 : Int32)), .unset, .unset]) rfl (XS.aloadN X23.here hx rfl (hb hby at_47) rfl rfl kz)) ?_
    obtain ⟨cq25, kq25, q25a, q25b, q25c⟩ := isOf hZ e23 P.2.2.2.1
    obtain ⟨_, _, ⟨T25, L25, k25, n25⟩, -, X25, ⟨Lc25, hQ25, l25, y25, z25⟩, st25⟩ := X23.virtualBack hx (y := (⟨"com/example/strict_credit/strictcredit/diameter/ResultCode", "code", "()I"⟩ : MethodName)) (z := (⟨"com/example/strict_credit/strictcredit/diameter/ResultCode", "code", "()I"⟩ : MethodName)) hown (mvT hZ (hw _ (List.mem_of_getElem? (i := 16) rfl))) (mvT hZ (hw _ (List.mem_of_getElem? (i := 17) rfl))) (notFace_of_selects (args := #[]) (mvT hZ (hw _ (List.mem_of_getElem? (i := 19) rfl)))) (mvT hZ (hw _ (List.mem_of_getElem? (i := 19) rfl))) (mvT hZ (hw _ (List.mem_of_getElem? (i := 18) rfl))) (by decide) (backOf (W := 0) (r2_7 l Z a0 hw [] h0 n0 Z0 w P) hZ (hw _ (List.mem_of_getElem? (i := 20) rfl)) (hw _ (List.mem_of_getElem? (i := 6) rfl)) (by decide) (by decide)) q25a q25c (g := (mkF m 48 #[.val (.int p1), .val (.int (2 : Int32)), .val (.ref (w 1)), .val (.int (1 : Int32)), .unset, .unset] [(.ref (w 1))])) rfl (by rw [hml]; rfl) (Steps.refl _) (argsL := []) (rest := []) (lenOf pd1 rfl) rfl (by show 2 * 0 + _ ≤ _; exact Nat.le_of_eq rfl) (hb hby at_48) (fun _ _ => ⟨rfl, e23, (by decide : 0 + 0 ≤ _), (by decide : 0 + 0 ≤ _)⟩)
    dsimp only [Pt.U, Pt.locs, Pt.cells, Pt.slots] at X25 l25 y25 z25 st25 hQ25
    subst l25 y25 z25
    obtain ⟨rfl, Nq25, e25⟩ := hQ25
    have N25 := Fr.app N22 Nq25
    refine Goes.tr st25 ?_
    refine Goes.by (fun _ kz => XS.istore X25.here hx rfl (hb hby at_51) rfl (l' := #[.val (.int p1), .val (.int (2 : Int32)), .val (.ref (w 1)), .val (.int (1 : Int32)), .val (.int (3001 : Int32)), .unset]) rfl (XS.iload X25.here hx rfl (hb hby at_53) rfl (XS.sipush X25.here hx rfl (hb hby at_55) kz))) ?_
    show Goes p e below (T25.setTop (mkF m 58 #[.val (.int p1), .val (.int (2 : Int32)), .val (.ref (w 1)), .val (.int (1 : Int32)), .val (.int (3001 : Int32)), .unset] [(.int (3000 : Int32)), (.int (3001 : Int32))])) _
    refine Goes.by (fun _ kz => XS.icmpNo X25.here hx rfl (hb hby at_58) rfl (flt (by decide : ¬ ((3001 : Int32) < (3000 : Int32)))).1 (XS.iload X25.here hx rfl (hb hby at_61) rfl (XS.sipush X25.here hx rfl (hb hby at_63) kz))) ?_
    show Goes p e below (T25.setTop (mkF m 66 #[.val (.int p1), .val (.int (2 : Int32)), .val (.ref (w 1)), .val (.int (1 : Int32)), .val (.int (3001 : Int32)), .unset] [(.int (3999 : Int32)), (.int (3001 : Int32))])) _
    refine Goes.by (fun _ kz => XS.icmpNo X25.here hx rfl (hb hby at_66) rfl (flt (by decide : ¬ ((3999 : Int32) < (3001 : Int32)))).2.2.1 (XS.iconst X25.here hx rfl (hb hby at_69) (XS.goto X25.here hx rfl (pc0 := 70) (pc' := 74) rfl (hb hby at_70) (by decide) (by decide) kz))) ?_
    show Goes p e below (T25.setTop (mkF m 74 #[.val (.int p1), .val (.int (2 : Int32)), .val (.ref (w 1)), .val (.int (1 : Int32)), .val (.int (3001 : Int32)), .unset] [(.int (1 : Int32))])) _
    refine Goes.by (fun _ kz => XS.istore X25.here hx rfl (hb hby at_74) rfl (l' := #[.val (.int p1), .val (.int (2 : Int32)), .val (.ref (w 1)), .val (.int (1 : Int32)), .val (.int (3001 : Int32)), .val (.int (1 : Int32))]) rfl (XS.aloadN X25.here hx rfl (hb hby at_76) rfl rfl kz)) ?_
    obtain ⟨cq27, kq27, q27a, q27b, q27c⟩ := isOf hZ e25 P.2.2.2.1
    obtain ⟨_, _, ⟨T27, L27, k27, n27⟩, -, X27, ⟨Lc27, hQ27, l27, y27, z27⟩, st27⟩ := X25.virtualBack hx (y := (⟨"com/example/strict_credit/strictcredit/diameter/ResultCode", "isProtocolError", "()Z"⟩ : MethodName)) (z := (⟨"com/example/strict_credit/strictcredit/diameter/ResultCode", "isProtocolError", "()Z"⟩ : MethodName)) hown (mvT hZ (hw _ (List.mem_of_getElem? (i := 23) rfl))) (mvT hZ (hw _ (List.mem_of_getElem? (i := 24) rfl))) (notFace_of_selects (args := #[]) (mvT hZ (hw _ (List.mem_of_getElem? (i := 26) rfl)))) (mvT hZ (hw _ (List.mem_of_getElem? (i := 26) rfl))) (mvT hZ (hw _ (List.mem_of_getElem? (i := 25) rfl))) (by decide) (backOf (W := 0) (r3_8 l Z a0 hw [] h0 n0 Z0 w P) hZ (hw _ (List.mem_of_getElem? (i := 27) rfl)) (hw _ (List.mem_of_getElem? (i := 6) rfl)) (by decide) (by decide)) q27a q27c (g := (mkF m 77 #[.val (.int p1), .val (.int (2 : Int32)), .val (.ref (w 1)), .val (.int (1 : Int32)), .val (.int (3001 : Int32)), .val (.int (1 : Int32))] [(.ref (w 1))])) rfl (by rw [hml]; rfl) (Steps.refl _) (argsL := []) (rest := []) (lenOf pd2 rfl) rfl (by show 2 * 0 + _ ≤ _; exact Nat.le_of_eq rfl) (hb hby at_77) (fun _ _ => ⟨rfl, e25, (by decide : 0 + 0 ≤ _), (by decide : 0 + 0 ≤ _)⟩)
    dsimp only [Pt.U, Pt.locs, Pt.cells, Pt.slots] at X27 l27 y27 z27 st27 hQ27
    subst l27 y27 z27
    obtain ⟨rfl, Nq27, e27⟩ := hQ27
    have N27 := Fr.app N25 Nq27
    refine Goes.tr st27 ?_
    refine Goes.by (fun _ kz => XS.iloadN X27.here hx rfl (hb hby at_80) rfl (XS.icmpNo X27.here hx rfl (hb hby at_81) rfl (teq (by decide : (1 : Int32) = (1 : Int32))).2 (XS.iloadN X27.here hx rfl (hb hby at_84) rfl kz))) ?_
    show Goes p e below (T27.setTop (mkF m 85 #[.val (.int p1), .val (.int (2 : Int32)), .val (.ref (w 1)), .val (.int (1 : Int32)), .val (.int (3001 : Int32)), .val (.int (1 : Int32))] [(.int (1 : Int32))])) _
    refine Goes.by (fun _ kz => XS.iload X27.here hx rfl (hb hby at_85) rfl (XS.icmpNo X27.here hx rfl (hb hby at_87) rfl (teq (by decide : (1 : Int32) = (1 : Int32))).2 (XS.iconst X27.here hx rfl (hb hby at_90) kz))) ?_
    show Goes p e below (T27.setTop (mkF m 91 #[.val (.int p1), .val (.int (2 : Int32)), .val (.ref (w 1)), .val (.int (1 : Int32)), .val (.int (3001 : Int32)), .val (.int (1 : Int32))] [(.int (1 : Int32))])) _
    refine Goes.by (fun _ kz => XS.goto X27.here hx rfl (pc0 := 91) (pc' := 95) rfl (hb hby at_91) (by decide) (by decide) kz) ?_
    show Goes p e below (T27.setTop (mkF m 95 #[.val (.int p1), .val (.int (2 : Int32)), .val (.ref (w 1)), .val (.int (1 : Int32)), .val (.int (3001 : Int32)), .val (.int (1 : Int32))] [(.int (1 : Int32))])) _
    obtain ⟨fs, hr, hrun, hended, hW, hsame⟩ := X27.leave (v := some (.int (1 : Int32))) (fun h => by rw [Bd.returns] at h; cases h)
    exact ⟨_, _, retN X27 hx (t := .boolean) Bd.returns (by simp) (hb hby at_95) hr, hrun, hended, _, _, rfl, ⟨rfl, N27⟩, ⟨_, rfl⟩, hW, hsame.mono (by decide) (by decide)⟩
  · show Goes p e below (s₁.setTop (mkF m 8 #[.val (.int p1), .val (.int (3 : Int32)), .unset, .unset, .unset, .unset] [])) _
    refine Goes.by (fun _ kz => XS.iloadN X0.here hx rfl (hb hby at_8) rfl kz) ?_
    obtain ⟨_, _, ⟨T29, L29, k29, n29⟩, -, X29, ⟨Lc29, hQ29, l29, y29, z29⟩, st29⟩ := Jvm.LawKit.callS X0 hx (y := (⟨"com/example/strict_credit/strictcredit/diameter/ResultCodeIsProtocolErrorPinLaw", "pick", "(I)Lcom/example/strict_credit/strictcredit/diameter/ResultCode;"⟩ : MethodName)) hown (mvT hZ (hw _ (List.mem_of_getElem? (i := 1) rfl))) (mvT hZ (hw _ (List.mem_of_getElem? (i := 2) rfl))) (mvT hZ (hw _ (List.mem_of_getElem? (i := 3) rfl))) (mvT hZ (hw _ (List.mem_of_getElem? (i := 4) rfl))) (by decide) (backOf (W := 0) (r1_9 l Z a0 hw [] h0 n0 Z0 w P) hZ (hw _ (List.mem_of_getElem? (i := 4) rfl)) (hw _ (List.mem_of_getElem? (i := 3) rfl)) (by decide) (by decide)) (g := (mkF m 9 #[.val (.int p1), .val (.int (3 : Int32)), .unset, .unset, .unset, .unset] [(.int (3 : Int32))])) rfl (by rw [hml]; rfl) (argsL := [(.int (3 : Int32))]) (rest := []) (lenOf pd0 rfl) rfl (by show 2 * 0 + _ ≤ _; exact Nat.le_of_eq rfl) (hb hby at_9) (fun _ _ => ⟨rfl, e0, (by decide : 0 + 0 ≤ _), (by decide : 0 + 0 ≤ _)⟩)
    dsimp only [Pt.U, Pt.locs, Pt.cells, Pt.slots] at X29 l29 y29 z29 st29 hQ29
    subst l29 y29 z29
    obtain ⟨rfl, Nq29, e29⟩ := hQ29
    have N29 := Fr.app N0 Nq29
    refine Goes.by st29 ?_
    refine Goes.by (fun _ kz => XS.astoreN X29.here hx rfl (hb hby at_12) rfl rfl (l' := #[.val (.int p1), .val (.int (3 : Int32)), .val (.ref (w 2)), .unset, .unset, .unset]) rfl (XS.aloadN X29.here hx rfl (hb hby at_13) rfl rfl kz)) ?_
    obtain ⟨T30, X30, e30, st30⟩ := getS2 X29 hx hZ hown (host := "") (Or.inl (hw _ (List.mem_of_getElem? (i := 8) rfl))) Via.refl e29 P.2.2.1 (g := (mkF m 14 #[.val (.int p1), .val (.int (3 : Int32)), .val (.ref (w 2)), .unset, .unset, .unset] [(.ref (w 2))])) rfl (hb hby at_14)
    refine Goes.by st30 ?_
    refine Goes.by (fun _ kz => Jvm.RoadKit.acmp (g := (mkF m 17 #[.val (.int p1), .val (.int (3 : Int32)), .val (.ref (w 2)), .unset, .unset, .unset] [(.ref (w 1)), (.ref (w 2))])) X30 hx rfl rfl rfl (pc0 := 17) (pc' := 20) (same := false) rfl (hb hby at_17) rfl (decide_eq_false fun q => (Ne.symm (own_ne_1_2 P)) (Value.ref.inj q)) (by decide) (by decide) (XS.aloadN X30.here hx rfl (hb hby at_20) rfl rfl kz)) ?_
    obtain ⟨T31, X31, e31, st31⟩ := getS2 X30 hx hZ hown (host := "") (Or.inl (hw _ (List.mem_of_getElem? (i := 10) rfl))) Via.refl e30 P.2.2.2.2.1 (g := (mkF m 21 #[.val (.int p1), .val (.int (3 : Int32)), .val (.ref (w 2)), .unset, .unset, .unset] [(.ref (w 2))])) rfl (hb hby at_21)
    refine Goes.by st31 ?_
    refine Goes.by (fun _ kz => Jvm.RoadKit.acmp (g := (mkF m 24 #[.val (.int p1), .val (.int (3 : Int32)), .val (.ref (w 2)), .unset, .unset, .unset] [(.ref (w 2)), (.ref (w 2))])) X31 hx rfl rfl rfl (pc0 := 24) (pc' := 41) (same := true) rfl (hb hby at_24) rfl (decide_eq_true rfl) (by decide) (by decide) (XS.iconst X31.here hx rfl (hb hby at_41) (XS.goto X31.here hx rfl (pc0 := 42) (pc' := 46) rfl (hb hby at_42) (by decide) (by decide) kz))) ?_
    show Goes p e below (T31.setTop (mkF m 46 #[.val (.int p1), .val (.int (3 : Int32)), .val (.ref (w 2)), .unset, .unset, .unset] [(.int (1 : Int32))])) _
    refine Goes.by (fun _ kz => XS.istoreN X31.here hx rfl (hb hby at_46) rfl (l' := #[.val (.int p1), .val (.int (3 : Int32)), .val (.ref (w 2)), .val (.int (1 : Int32)), .unset, .unset]) rfl (XS.aloadN X31.here hx rfl (hb hby at_47) rfl rfl kz)) ?_
    obtain ⟨cq33, kq33, q33a, q33b, q33c⟩ := isOf hZ e31 P.2.2.2.2.2.1
    obtain ⟨_, _, ⟨T33, L33, k33, n33⟩, -, X33, ⟨Lc33, hQ33, l33, y33, z33⟩, st33⟩ := X31.virtualBack hx (y := (⟨"com/example/strict_credit/strictcredit/diameter/ResultCode", "code", "()I"⟩ : MethodName)) (z := (⟨"com/example/strict_credit/strictcredit/diameter/ResultCode", "code", "()I"⟩ : MethodName)) hown (mvT hZ (hw _ (List.mem_of_getElem? (i := 16) rfl))) (mvT hZ (hw _ (List.mem_of_getElem? (i := 17) rfl))) (notFace_of_selects (args := #[]) (mvT hZ (hw _ (List.mem_of_getElem? (i := 19) rfl)))) (mvT hZ (hw _ (List.mem_of_getElem? (i := 19) rfl))) (mvT hZ (hw _ (List.mem_of_getElem? (i := 18) rfl))) (by decide) (backOf (W := 0) (r2_10 l Z a0 hw [] h0 n0 Z0 w P) hZ (hw _ (List.mem_of_getElem? (i := 20) rfl)) (hw _ (List.mem_of_getElem? (i := 6) rfl)) (by decide) (by decide)) q33a q33c (g := (mkF m 48 #[.val (.int p1), .val (.int (3 : Int32)), .val (.ref (w 2)), .val (.int (1 : Int32)), .unset, .unset] [(.ref (w 2))])) rfl (by rw [hml]; rfl) (Steps.refl _) (argsL := []) (rest := []) (lenOf pd1 rfl) rfl (by show 2 * 0 + _ ≤ _; exact Nat.le_of_eq rfl) (hb hby at_48) (fun _ _ => ⟨rfl, e31, (by decide : 0 + 0 ≤ _), (by decide : 0 + 0 ≤ _)⟩)
    dsimp only [Pt.U, Pt.locs, Pt.cells, Pt.slots] at X33 l33 y33 z33 st33 hQ33
    subst l33 y33 z33
    obtain ⟨rfl, Nq33, e33⟩ := hQ33
    have N33 := Fr.app N29 Nq33
    refine Goes.tr st33 ?_
    refine Goes.by (fun _ kz => XS.istore X33.here hx rfl (hb hby at_51) rfl (l' := #[.val (.int p1), .val (.int (3 : Int32)), .val (.ref (w 2)), .val (.int (1 : Int32)), .val (.int (3007 : Int32)), .unset]) rfl (XS.iload X33.here hx rfl (hb hby at_53) rfl (XS.sipush X33.here hx rfl (hb hby at_55) kz))) ?_
    show Goes p e below (T33.setTop (mkF m 58 #[.val (.int p1), .val (.int (3 : Int32)), .val (.ref (w 2)), .val (.int (1 : Int32)), .val (.int (3007 : Int32)), .unset] [(.int (3000 : Int32)), (.int (3007 : Int32))])) _
    refine Goes.by (fun _ kz => XS.icmpNo X33.here hx rfl (hb hby at_58) rfl (flt (by decide : ¬ ((3007 : Int32) < (3000 : Int32)))).1 (XS.iload X33.here hx rfl (hb hby at_61) rfl (XS.sipush X33.here hx rfl (hb hby at_63) kz))) ?_
    show Goes p e below (T33.setTop (mkF m 66 #[.val (.int p1), .val (.int (3 : Int32)), .val (.ref (w 2)), .val (.int (1 : Int32)), .val (.int (3007 : Int32)), .unset] [(.int (3999 : Int32)), (.int (3007 : Int32))])) _
    refine Goes.by (fun _ kz => XS.icmpNo X33.here hx rfl (hb hby at_66) rfl (flt (by decide : ¬ ((3999 : Int32) < (3007 : Int32)))).2.2.1 (XS.iconst X33.here hx rfl (hb hby at_69) (XS.goto X33.here hx rfl (pc0 := 70) (pc' := 74) rfl (hb hby at_70) (by decide) (by decide) kz))) ?_
    show Goes p e below (T33.setTop (mkF m 74 #[.val (.int p1), .val (.int (3 : Int32)), .val (.ref (w 2)), .val (.int (1 : Int32)), .val (.int (3007 : Int32)), .unset] [(.int (1 : Int32))])) _
    refine Goes.by (fun _ kz => XS.istore X33.here hx rfl (hb hby at_74) rfl (l' := #[.val (.int p1), .val (.int (3 : Int32)), .val (.ref (w 2)), .val (.int (1 : Int32)), .val (.int (3007 : Int32)), .val (.int (1 : Int32))]) rfl (XS.aloadN X33.here hx rfl (hb hby at_76) rfl rfl kz)) ?_
    obtain ⟨cq35, kq35, q35a, q35b, q35c⟩ := isOf hZ e33 P.2.2.2.2.2.1
    obtain ⟨_, _, ⟨T35, L35, k35, n35⟩, -, X35, ⟨Lc35, hQ35, l35, y35, z35⟩, st35⟩ := X33.virtualBack hx (y := (⟨"com/example/strict_credit/strictcredit/diameter/ResultCode", "isProtocolError", "()Z"⟩ : MethodName)) (z := (⟨"com/example/strict_credit/strictcredit/diameter/ResultCode", "isProtocolError", "()Z"⟩ : MethodName)) hown (mvT hZ (hw _ (List.mem_of_getElem? (i := 23) rfl))) (mvT hZ (hw _ (List.mem_of_getElem? (i := 24) rfl))) (notFace_of_selects (args := #[]) (mvT hZ (hw _ (List.mem_of_getElem? (i := 26) rfl)))) (mvT hZ (hw _ (List.mem_of_getElem? (i := 26) rfl))) (mvT hZ (hw _ (List.mem_of_getElem? (i := 25) rfl))) (by decide) (backOf (W := 0) (r3_11 l Z a0 hw [] h0 n0 Z0 w P) hZ (hw _ (List.mem_of_getElem? (i := 27) rfl)) (hw _ (List.mem_of_getElem? (i := 6) rfl)) (by decide) (by decide)) q35a q35c (g := (mkF m 77 #[.val (.int p1), .val (.int (3 : Int32)), .val (.ref (w 2)), .val (.int (1 : Int32)), .val (.int (3007 : Int32)), .val (.int (1 : Int32))] [(.ref (w 2))])) rfl (by rw [hml]; rfl) (Steps.refl _) (argsL := []) (rest := []) (lenOf pd2 rfl) rfl (by show 2 * 0 + _ ≤ _; exact Nat.le_of_eq rfl) (hb hby at_77) (fun _ _ => ⟨rfl, e33, (by decide : 0 + 0 ≤ _), (by decide : 0 + 0 ≤ _)⟩)
    dsimp only [Pt.U, Pt.locs, Pt.cells, Pt.slots] at X35 l35 y35 z35 st35 hQ35
    subst l35 y35 z35
    obtain ⟨rfl, Nq35, e35⟩ := hQ35
    have N35 := Fr.app N33 Nq35
    refine Goes.tr st35 ?_
    refine Goes.by (fun _ kz => XS.iloadN X35.here hx rfl (hb hby at_80) rfl (XS.icmpNo X35.here hx rfl (hb hby at_81) rfl (teq (by decide : (1 : Int32) = (1 : Int32))).2 (XS.iloadN X35.here hx rfl (hb hby at_84) rfl kz))) ?_
    show Goes p e below (T35.setTop (mkF m 85 #[.val (.int p1), .val (.int (3 : Int32)), .val (.ref (w 2)), .val (.int (1 : Int32)), .val (.int (3007 : Int32)), .val (.int (1 : Int32))] [(.int (1 : Int32))])) _
    refine Goes.by (fun _ kz => XS.iload X35.here hx rfl (hb hby at_85) rfl (XS.icmpNo X35.here hx rfl (hb hby at_87) rfl (teq (by decide : (1 : Int32) = (1 : Int32))).2 (XS.iconst X35.here hx rfl (hb hby at_90) kz))) ?_
    show Goes p e below (T35.setTop (mkF m 91 #[.val (.int p1), .val (.int (3 : Int32)), .val (.ref (w 2)), .val (.int (1 : Int32)), .val (.int (3007 : Int32)), .val (.int (1 : Int32))] [(.int (1 : Int32))])) _
    refine Goes.by (fun _ kz => XS.goto X35.here hx rfl (pc0 := 91) (pc' := 95) rfl (hb hby at_91) (by decide) (by decide) kz) ?_
    show Goes p e below (T35.setTop (mkF m 95 #[.val (.int p1), .val (.int (3 : Int32)), .val (.ref (w 2)), .val (.int (1 : Int32)), .val (.int (3007 : Int32)), .val (.int (1 : Int32))] [(.int (1 : Int32))])) _
    obtain ⟨fs, hr, hrun, hended, hW, hsame⟩ := X35.leave (v := some (.int (1 : Int32))) (fun h => by rw [Bd.returns] at h; cases h)
    exact ⟨_, _, retN X35 hx (t := .boolean) Bd.returns (by simp) (hb hby at_95) hr, hrun, hended, _, _, rfl, ⟨rfl, N35⟩, ⟨_, rfl⟩, hW, hsame.mono (by decide) (by decide)⟩
  · show Goes p e below (s₁.setTop (mkF m 8 #[.val (.int p1), .val (.int (4 : Int32)), .unset, .unset, .unset, .unset] [])) _
    refine Goes.by (fun _ kz => XS.iloadN X0.here hx rfl (hb hby at_8) rfl kz) ?_
    obtain ⟨_, _, ⟨T37, L37, k37, n37⟩, -, X37, ⟨Lc37, hQ37, l37, y37, z37⟩, st37⟩ := Jvm.LawKit.callS X0 hx (y := (⟨"com/example/strict_credit/strictcredit/diameter/ResultCodeIsProtocolErrorPinLaw", "pick", "(I)Lcom/example/strict_credit/strictcredit/diameter/ResultCode;"⟩ : MethodName)) hown (mvT hZ (hw _ (List.mem_of_getElem? (i := 1) rfl))) (mvT hZ (hw _ (List.mem_of_getElem? (i := 2) rfl))) (mvT hZ (hw _ (List.mem_of_getElem? (i := 3) rfl))) (mvT hZ (hw _ (List.mem_of_getElem? (i := 4) rfl))) (by decide) (backOf (W := 0) (r1_12 l Z a0 hw [] h0 n0 Z0 w P) hZ (hw _ (List.mem_of_getElem? (i := 4) rfl)) (hw _ (List.mem_of_getElem? (i := 3) rfl)) (by decide) (by decide)) (g := (mkF m 9 #[.val (.int p1), .val (.int (4 : Int32)), .unset, .unset, .unset, .unset] [(.int (4 : Int32))])) rfl (by rw [hml]; rfl) (argsL := [(.int (4 : Int32))]) (rest := []) (lenOf pd0 rfl) rfl (by show 2 * 0 + _ ≤ _; exact Nat.le_of_eq rfl) (hb hby at_9) (fun _ _ => ⟨rfl, e0, (by decide : 0 + 0 ≤ _), (by decide : 0 + 0 ≤ _)⟩)
    dsimp only [Pt.U, Pt.locs, Pt.cells, Pt.slots] at X37 l37 y37 z37 st37 hQ37
    subst l37 y37 z37
    obtain ⟨rfl, Nq37, e37⟩ := hQ37
    have N37 := Fr.app N0 Nq37
    refine Goes.by st37 ?_
    refine Goes.by (fun _ kz => XS.astoreN X37.here hx rfl (hb hby at_12) rfl rfl (l' := #[.val (.int p1), .val (.int (4 : Int32)), .val (.ref (w 3)), .unset, .unset, .unset]) rfl (XS.aloadN X37.here hx rfl (hb hby at_13) rfl rfl kz)) ?_
    obtain ⟨T38, X38, e38, st38⟩ := getS2 X37 hx hZ hown (host := "") (Or.inl (hw _ (List.mem_of_getElem? (i := 8) rfl))) Via.refl e37 P.2.2.1 (g := (mkF m 14 #[.val (.int p1), .val (.int (4 : Int32)), .val (.ref (w 3)), .unset, .unset, .unset] [(.ref (w 3))])) rfl (hb hby at_14)
    refine Goes.by st38 ?_
    refine Goes.by (fun _ kz => Jvm.RoadKit.acmp (g := (mkF m 17 #[.val (.int p1), .val (.int (4 : Int32)), .val (.ref (w 3)), .unset, .unset, .unset] [(.ref (w 1)), (.ref (w 3))])) X38 hx rfl rfl rfl (pc0 := 17) (pc' := 20) (same := false) rfl (hb hby at_17) rfl (decide_eq_false fun q => (Ne.symm (own_ne_1_3 P)) (Value.ref.inj q)) (by decide) (by decide) (XS.aloadN X38.here hx rfl (hb hby at_20) rfl rfl kz)) ?_
    obtain ⟨T39, X39, e39, st39⟩ := getS2 X38 hx hZ hown (host := "") (Or.inl (hw _ (List.mem_of_getElem? (i := 10) rfl))) Via.refl e38 P.2.2.2.2.1 (g := (mkF m 21 #[.val (.int p1), .val (.int (4 : Int32)), .val (.ref (w 3)), .unset, .unset, .unset] [(.ref (w 3))])) rfl (hb hby at_21)
    refine Goes.by st39 ?_
    refine Goes.by (fun _ kz => Jvm.RoadKit.acmp (g := (mkF m 24 #[.val (.int p1), .val (.int (4 : Int32)), .val (.ref (w 3)), .unset, .unset, .unset] [(.ref (w 2)), (.ref (w 3))])) X39 hx rfl rfl rfl (pc0 := 24) (pc' := 27) (same := false) rfl (hb hby at_24) rfl (decide_eq_false fun q => (Ne.symm (own_ne_2_3 P)) (Value.ref.inj q)) (by decide) (by decide) (XS.aloadN X39.here hx rfl (hb hby at_27) rfl rfl kz)) ?_
    obtain ⟨T40, X40, e40, st40⟩ := getS2 X39 hx hZ hown (host := "") (Or.inl (hw _ (List.mem_of_getElem? (i := 12) rfl))) Via.refl e39 P.2.2.2.2.2.2.1 (g := (mkF m 28 #[.val (.int p1), .val (.int (4 : Int32)), .val (.ref (w 3)), .unset, .unset, .unset] [(.ref (w 3))])) rfl (hb hby at_28)
    refine Goes.by st40 ?_
    refine Goes.by (fun _ kz => Jvm.RoadKit.acmp (g := (mkF m 31 #[.val (.int p1), .val (.int (4 : Int32)), .val (.ref (w 3)), .unset, .unset, .unset] [(.ref (w 3)), (.ref (w 3))])) X40 hx rfl rfl rfl (pc0 := 31) (pc' := 41) (same := true) rfl (hb hby at_31) rfl (decide_eq_true rfl) (by decide) (by decide) (XS.iconst X40.here hx rfl (hb hby at_41) (XS.goto X40.here hx rfl (pc0 := 42) (pc' := 46) rfl (hb hby at_42) (by decide) (by decide) kz))) ?_
    show Goes p e below (T40.setTop (mkF m 46 #[.val (.int p1), .val (.int (4 : Int32)), .val (.ref (w 3)), .unset, .unset, .unset] [(.int (1 : Int32))])) _
    refine Goes.by (fun _ kz => XS.istoreN X40.here hx rfl (hb hby at_46) rfl (l' := #[.val (.int p1), .val (.int (4 : Int32)), .val (.ref (w 3)), .val (.int (1 : Int32)), .unset, .unset]) rfl (XS.aloadN X40.here hx rfl (hb hby at_47) rfl rfl kz)) ?_
    obtain ⟨cq42, kq42, q42a, q42b, q42c⟩ := isOf hZ e40 P.2.2.2.2.2.2.2.1
    obtain ⟨_, _, ⟨T42, L42, k42, n42⟩, -, X42, ⟨Lc42, hQ42, l42, y42, z42⟩, st42⟩ := X40.virtualBack hx (y := (⟨"com/example/strict_credit/strictcredit/diameter/ResultCode", "code", "()I"⟩ : MethodName)) (z := (⟨"com/example/strict_credit/strictcredit/diameter/ResultCode", "code", "()I"⟩ : MethodName)) hown (mvT hZ (hw _ (List.mem_of_getElem? (i := 16) rfl))) (mvT hZ (hw _ (List.mem_of_getElem? (i := 17) rfl))) (notFace_of_selects (args := #[]) (mvT hZ (hw _ (List.mem_of_getElem? (i := 19) rfl)))) (mvT hZ (hw _ (List.mem_of_getElem? (i := 19) rfl))) (mvT hZ (hw _ (List.mem_of_getElem? (i := 18) rfl))) (by decide) (backOf (W := 0) (r2_13 l Z a0 hw [] h0 n0 Z0 w P) hZ (hw _ (List.mem_of_getElem? (i := 20) rfl)) (hw _ (List.mem_of_getElem? (i := 6) rfl)) (by decide) (by decide)) q42a q42c (g := (mkF m 48 #[.val (.int p1), .val (.int (4 : Int32)), .val (.ref (w 3)), .val (.int (1 : Int32)), .unset, .unset] [(.ref (w 3))])) rfl (by rw [hml]; rfl) (Steps.refl _) (argsL := []) (rest := []) (lenOf pd1 rfl) rfl (by show 2 * 0 + _ ≤ _; exact Nat.le_of_eq rfl) (hb hby at_48) (fun _ _ => ⟨rfl, e40, (by decide : 0 + 0 ≤ _), (by decide : 0 + 0 ≤ _)⟩)
    dsimp only [Pt.U, Pt.locs, Pt.cells, Pt.slots] at X42 l42 y42 z42 st42 hQ42
    subst l42 y42 z42
    obtain ⟨rfl, Nq42, e42⟩ := hQ42
    have N42 := Fr.app N37 Nq42
    refine Goes.tr st42 ?_
    refine Goes.by (fun _ kz => XS.istore X42.here hx rfl (hb hby at_51) rfl (l' := #[.val (.int p1), .val (.int (4 : Int32)), .val (.ref (w 3)), .val (.int (1 : Int32)), .val (.int (3008 : Int32)), .unset]) rfl (XS.iload X42.here hx rfl (hb hby at_53) rfl (XS.sipush X42.here hx rfl (hb hby at_55) kz))) ?_
    show Goes p e below (T42.setTop (mkF m 58 #[.val (.int p1), .val (.int (4 : Int32)), .val (.ref (w 3)), .val (.int (1 : Int32)), .val (.int (3008 : Int32)), .unset] [(.int (3000 : Int32)), (.int (3008 : Int32))])) _
    refine Goes.by (fun _ kz => XS.icmpNo X42.here hx rfl (hb hby at_58) rfl (flt (by decide : ¬ ((3008 : Int32) < (3000 : Int32)))).1 (XS.iload X42.here hx rfl (hb hby at_61) rfl (XS.sipush X42.here hx rfl (hb hby at_63) kz))) ?_
    show Goes p e below (T42.setTop (mkF m 66 #[.val (.int p1), .val (.int (4 : Int32)), .val (.ref (w 3)), .val (.int (1 : Int32)), .val (.int (3008 : Int32)), .unset] [(.int (3999 : Int32)), (.int (3008 : Int32))])) _
    refine Goes.by (fun _ kz => XS.icmpNo X42.here hx rfl (hb hby at_66) rfl (flt (by decide : ¬ ((3999 : Int32) < (3008 : Int32)))).2.2.1 (XS.iconst X42.here hx rfl (hb hby at_69) (XS.goto X42.here hx rfl (pc0 := 70) (pc' := 74) rfl (hb hby at_70) (by decide) (by decide) kz))) ?_
    show Goes p e below (T42.setTop (mkF m 74 #[.val (.int p1), .val (.int (4 : Int32)), .val (.ref (w 3)), .val (.int (1 : Int32)), .val (.int (3008 : Int32)), .unset] [(.int (1 : Int32))])) _
    refine Goes.by (fun _ kz => XS.istore X42.here hx rfl (hb hby at_74) rfl (l' := #[.val (.int p1), .val (.int (4 : Int32)), .val (.ref (w 3)), .val (.int (1 : Int32)), .val (.int (3008 : Int32)), .val (.int (1 : Int32))]) rfl (XS.aloadN X42.here hx rfl (hb hby at_76) rfl rfl kz)) ?_
    obtain ⟨cq44, kq44, q44a, q44b, q44c⟩ := isOf hZ e42 P.2.2.2.2.2.2.2.1
    obtain ⟨_, _, ⟨T44, L44, k44, n44⟩, -, X44, ⟨Lc44, hQ44, l44, y44, z44⟩, st44⟩ := X42.virtualBack hx (y := (⟨"com/example/strict_credit/strictcredit/diameter/ResultCode", "isProtocolError", "()Z"⟩ : MethodName)) (z := (⟨"com/example/strict_credit/strictcredit/diameter/ResultCode", "isProtocolError", "()Z"⟩ : MethodName)) hown (mvT hZ (hw _ (List.mem_of_getElem? (i := 23) rfl))) (mvT hZ (hw _ (List.mem_of_getElem? (i := 24) rfl))) (notFace_of_selects (args := #[]) (mvT hZ (hw _ (List.mem_of_getElem? (i := 26) rfl)))) (mvT hZ (hw _ (List.mem_of_getElem? (i := 26) rfl))) (mvT hZ (hw _ (List.mem_of_getElem? (i := 25) rfl))) (by decide) (backOf (W := 0) (r3_14 l Z a0 hw [] h0 n0 Z0 w P) hZ (hw _ (List.mem_of_getElem? (i := 27) rfl)) (hw _ (List.mem_of_getElem? (i := 6) rfl)) (by decide) (by decide)) q44a q44c (g := (mkF m 77 #[.val (.int p1), .val (.int (4 : Int32)), .val (.ref (w 3)), .val (.int (1 : Int32)), .val (.int (3008 : Int32)), .val (.int (1 : Int32))] [(.ref (w 3))])) rfl (by rw [hml]; rfl) (Steps.refl _) (argsL := []) (rest := []) (lenOf pd2 rfl) rfl (by show 2 * 0 + _ ≤ _; exact Nat.le_of_eq rfl) (hb hby at_77) (fun _ _ => ⟨rfl, e42, (by decide : 0 + 0 ≤ _), (by decide : 0 + 0 ≤ _)⟩)
    dsimp only [Pt.U, Pt.locs, Pt.cells, Pt.slots] at X44 l44 y44 z44 st44 hQ44
    subst l44 y44 z44
    obtain ⟨rfl, Nq44, e44⟩ := hQ44
    have N44 := Fr.app N42 Nq44
    refine Goes.tr st44 ?_
    refine Goes.by (fun _ kz => XS.iloadN X44.here hx rfl (hb hby at_80) rfl (XS.icmpNo X44.here hx rfl (hb hby at_81) rfl (teq (by decide : (1 : Int32) = (1 : Int32))).2 (XS.iloadN X44.here hx rfl (hb hby at_84) rfl kz))) ?_
    show Goes p e below (T44.setTop (mkF m 85 #[.val (.int p1), .val (.int (4 : Int32)), .val (.ref (w 3)), .val (.int (1 : Int32)), .val (.int (3008 : Int32)), .val (.int (1 : Int32))] [(.int (1 : Int32))])) _
    refine Goes.by (fun _ kz => XS.iload X44.here hx rfl (hb hby at_85) rfl (XS.icmpNo X44.here hx rfl (hb hby at_87) rfl (teq (by decide : (1 : Int32) = (1 : Int32))).2 (XS.iconst X44.here hx rfl (hb hby at_90) kz))) ?_
    show Goes p e below (T44.setTop (mkF m 91 #[.val (.int p1), .val (.int (4 : Int32)), .val (.ref (w 3)), .val (.int (1 : Int32)), .val (.int (3008 : Int32)), .val (.int (1 : Int32))] [(.int (1 : Int32))])) _
    refine Goes.by (fun _ kz => XS.goto X44.here hx rfl (pc0 := 91) (pc' := 95) rfl (hb hby at_91) (by decide) (by decide) kz) ?_
    show Goes p e below (T44.setTop (mkF m 95 #[.val (.int p1), .val (.int (4 : Int32)), .val (.ref (w 3)), .val (.int (1 : Int32)), .val (.int (3008 : Int32)), .val (.int (1 : Int32))] [(.int (1 : Int32))])) _
    obtain ⟨fs, hr, hrun, hended, hW, hsame⟩ := X44.leave (v := some (.int (1 : Int32))) (fun h => by rw [Bd.returns] at h; cases h)
    exact ⟨_, _, retN X44 hx (t := .boolean) Bd.returns (by simp) (hb hby at_95) hr, hrun, hended, _, _, rfl, ⟨rfl, N44⟩, ⟨_, rfl⟩, hW, hsame.mono (by decide) (by decide)⟩
  · show Goes p e below (s₁.setTop (mkF m 8 #[.val (.int p1), .val (.int (5 : Int32)), .unset, .unset, .unset, .unset] [])) _
    refine Goes.by (fun _ kz => XS.iloadN X0.here hx rfl (hb hby at_8) rfl kz) ?_
    obtain ⟨_, _, ⟨T46, L46, k46, n46⟩, -, X46, ⟨Lc46, hQ46, l46, y46, z46⟩, st46⟩ := Jvm.LawKit.callS X0 hx (y := (⟨"com/example/strict_credit/strictcredit/diameter/ResultCodeIsProtocolErrorPinLaw", "pick", "(I)Lcom/example/strict_credit/strictcredit/diameter/ResultCode;"⟩ : MethodName)) hown (mvT hZ (hw _ (List.mem_of_getElem? (i := 1) rfl))) (mvT hZ (hw _ (List.mem_of_getElem? (i := 2) rfl))) (mvT hZ (hw _ (List.mem_of_getElem? (i := 3) rfl))) (mvT hZ (hw _ (List.mem_of_getElem? (i := 4) rfl))) (by decide) (backOf (W := 0) (r1_15 l Z a0 hw [] h0 n0 Z0 w P) hZ (hw _ (List.mem_of_getElem? (i := 4) rfl)) (hw _ (List.mem_of_getElem? (i := 3) rfl)) (by decide) (by decide)) (g := (mkF m 9 #[.val (.int p1), .val (.int (5 : Int32)), .unset, .unset, .unset, .unset] [(.int (5 : Int32))])) rfl (by rw [hml]; rfl) (argsL := [(.int (5 : Int32))]) (rest := []) (lenOf pd0 rfl) rfl (by show 2 * 0 + _ ≤ _; exact Nat.le_of_eq rfl) (hb hby at_9) (fun _ _ => ⟨rfl, e0, (by decide : 0 + 0 ≤ _), (by decide : 0 + 0 ≤ _)⟩)
    dsimp only [Pt.U, Pt.locs, Pt.cells, Pt.slots] at X46 l46 y46 z46 st46 hQ46
    subst l46 y46 z46
    obtain ⟨rfl, Nq46, e46⟩ := hQ46
    have N46 := Fr.app N0 Nq46
    refine Goes.by st46 ?_
    refine Goes.by (fun _ kz => XS.astoreN X46.here hx rfl (hb hby at_12) rfl rfl (l' := #[.val (.int p1), .val (.int (5 : Int32)), .val (.ref (w 4)), .unset, .unset, .unset]) rfl (XS.aloadN X46.here hx rfl (hb hby at_13) rfl rfl kz)) ?_
    obtain ⟨T47, X47, e47, st47⟩ := getS2 X46 hx hZ hown (host := "") (Or.inl (hw _ (List.mem_of_getElem? (i := 8) rfl))) Via.refl e46 P.2.2.1 (g := (mkF m 14 #[.val (.int p1), .val (.int (5 : Int32)), .val (.ref (w 4)), .unset, .unset, .unset] [(.ref (w 4))])) rfl (hb hby at_14)
    refine Goes.by st47 ?_
    refine Goes.by (fun _ kz => Jvm.RoadKit.acmp (g := (mkF m 17 #[.val (.int p1), .val (.int (5 : Int32)), .val (.ref (w 4)), .unset, .unset, .unset] [(.ref (w 1)), (.ref (w 4))])) X47 hx rfl rfl rfl (pc0 := 17) (pc' := 20) (same := false) rfl (hb hby at_17) rfl (decide_eq_false fun q => (Ne.symm (own_ne_1_4 P)) (Value.ref.inj q)) (by decide) (by decide) (XS.aloadN X47.here hx rfl (hb hby at_20) rfl rfl kz)) ?_
    obtain ⟨T48, X48, e48, st48⟩ := getS2 X47 hx hZ hown (host := "") (Or.inl (hw _ (List.mem_of_getElem? (i := 10) rfl))) Via.refl e47 P.2.2.2.2.1 (g := (mkF m 21 #[.val (.int p1), .val (.int (5 : Int32)), .val (.ref (w 4)), .unset, .unset, .unset] [(.ref (w 4))])) rfl (hb hby at_21)
    refine Goes.by st48 ?_
    refine Goes.by (fun _ kz => Jvm.RoadKit.acmp (g := (mkF m 24 #[.val (.int p1), .val (.int (5 : Int32)), .val (.ref (w 4)), .unset, .unset, .unset] [(.ref (w 2)), (.ref (w 4))])) X48 hx rfl rfl rfl (pc0 := 24) (pc' := 27) (same := false) rfl (hb hby at_24) rfl (decide_eq_false fun q => (Ne.symm (own_ne_2_4 P)) (Value.ref.inj q)) (by decide) (by decide) (XS.aloadN X48.here hx rfl (hb hby at_27) rfl rfl kz)) ?_
    obtain ⟨T49, X49, e49, st49⟩ := getS2 X48 hx hZ hown (host := "") (Or.inl (hw _ (List.mem_of_getElem? (i := 12) rfl))) Via.refl e48 P.2.2.2.2.2.2.1 (g := (mkF m 28 #[.val (.int p1), .val (.int (5 : Int32)), .val (.ref (w 4)), .unset, .unset, .unset] [(.ref (w 4))])) rfl (hb hby at_28)
    refine Goes.by st49 ?_
    refine Goes.by (fun _ kz => Jvm.RoadKit.acmp (g := (mkF m 31 #[.val (.int p1), .val (.int (5 : Int32)), .val (.ref (w 4)), .unset, .unset, .unset] [(.ref (w 3)), (.ref (w 4))])) X49 hx rfl rfl rfl (pc0 := 31) (pc' := 34) (same := false) rfl (hb hby at_31) rfl (decide_eq_false fun q => (Ne.symm (own_ne_3_4 P)) (Value.ref.inj q)) (by decide) (by decide) (XS.aloadN X49.here hx rfl (hb hby at_34) rfl rfl kz)) ?_
    obtain ⟨T50, X50, e50, st50⟩ := getS2 X49 hx hZ hown (host := "") (Or.inl (hw _ (List.mem_of_getElem? (i := 14) rfl))) Via.refl e49 P.2.2.2.2.2.2.2.2.1 (g := (mkF m 35 #[.val (.int p1), .val (.int (5 : Int32)), .val (.ref (w 4)), .unset, .unset, .unset] [(.ref (w 4))])) rfl (hb hby at_35)
    refine Goes.by st50 ?_
    refine Goes.by (fun _ kz => Jvm.RoadKit.acmp (g := (mkF m 38 #[.val (.int p1), .val (.int (5 : Int32)), .val (.ref (w 4)), .unset, .unset, .unset] [(.ref (w 4)), (.ref (w 4))])) X50 hx rfl rfl rfl (pc0 := 38) (pc' := 41) (same := true) rfl (hb hby at_38) rfl (decide_eq_true rfl) (by decide) (by decide) (XS.iconst X50.here hx rfl (hb hby at_41) (XS.goto X50.here hx rfl (pc0 := 42) (pc' := 46) rfl (hb hby at_42) (by decide) (by decide) kz))) ?_
    show Goes p e below (T50.setTop (mkF m 46 #[.val (.int p1), .val (.int (5 : Int32)), .val (.ref (w 4)), .unset, .unset, .unset] [(.int (1 : Int32))])) _
    refine Goes.by (fun _ kz => XS.istoreN X50.here hx rfl (hb hby at_46) rfl (l' := #[.val (.int p1), .val (.int (5 : Int32)), .val (.ref (w 4)), .val (.int (1 : Int32)), .unset, .unset]) rfl (XS.aloadN X50.here hx rfl (hb hby at_47) rfl rfl kz)) ?_
    obtain ⟨cq52, kq52, q52a, q52b, q52c⟩ := isOf hZ e50 P.2.2.2.2.2.2.2.2.2.1
    obtain ⟨_, _, ⟨T52, L52, k52, n52⟩, -, X52, ⟨Lc52, hQ52, l52, y52, z52⟩, st52⟩ := X50.virtualBack hx (y := (⟨"com/example/strict_credit/strictcredit/diameter/ResultCode", "code", "()I"⟩ : MethodName)) (z := (⟨"com/example/strict_credit/strictcredit/diameter/ResultCode", "code", "()I"⟩ : MethodName)) hown (mvT hZ (hw _ (List.mem_of_getElem? (i := 16) rfl))) (mvT hZ (hw _ (List.mem_of_getElem? (i := 17) rfl))) (notFace_of_selects (args := #[]) (mvT hZ (hw _ (List.mem_of_getElem? (i := 19) rfl)))) (mvT hZ (hw _ (List.mem_of_getElem? (i := 19) rfl))) (mvT hZ (hw _ (List.mem_of_getElem? (i := 18) rfl))) (by decide) (backOf (W := 0) (r2_16 l Z a0 hw [] h0 n0 Z0 w P) hZ (hw _ (List.mem_of_getElem? (i := 20) rfl)) (hw _ (List.mem_of_getElem? (i := 6) rfl)) (by decide) (by decide)) q52a q52c (g := (mkF m 48 #[.val (.int p1), .val (.int (5 : Int32)), .val (.ref (w 4)), .val (.int (1 : Int32)), .unset, .unset] [(.ref (w 4))])) rfl (by rw [hml]; rfl) (Steps.refl _) (argsL := []) (rest := []) (lenOf pd1 rfl) rfl (by show 2 * 0 + _ ≤ _; exact Nat.le_of_eq rfl) (hb hby at_48) (fun _ _ => ⟨rfl, e50, (by decide : 0 + 0 ≤ _), (by decide : 0 + 0 ≤ _)⟩)
    dsimp only [Pt.U, Pt.locs, Pt.cells, Pt.slots] at X52 l52 y52 z52 st52 hQ52
    subst l52 y52 z52
    obtain ⟨rfl, Nq52, e52⟩ := hQ52
    have N52 := Fr.app N46 Nq52
    refine Goes.tr st52 ?_
    refine Goes.by (fun _ kz => XS.istore X52.here hx rfl (hb hby at_51) rfl (l' := #[.val (.int p1), .val (.int (5 : Int32)), .val (.ref (w 4)), .val (.int (1 : Int32)), .val (.int (3010 : Int32)), .unset]) rfl (XS.iload X52.here hx rfl (hb hby at_53) rfl (XS.sipush X52.here hx rfl (hb hby at_55) kz))) ?_
    show Goes p e below (T52.setTop (mkF m 58 #[.val (.int p1), .val (.int (5 : Int32)), .val (.ref (w 4)), .val (.int (1 : Int32)), .val (.int (3010 : Int32)), .unset] [(.int (3000 : Int32)), (.int (3010 : Int32))])) _
    refine Goes.by (fun _ kz => XS.icmpNo X52.here hx rfl (hb hby at_58) rfl (flt (by decide : ¬ ((3010 : Int32) < (3000 : Int32)))).1 (XS.iload X52.here hx rfl (hb hby at_61) rfl (XS.sipush X52.here hx rfl (hb hby at_63) kz))) ?_
    show Goes p e below (T52.setTop (mkF m 66 #[.val (.int p1), .val (.int (5 : Int32)), .val (.ref (w 4)), .val (.int (1 : Int32)), .val (.int (3010 : Int32)), .unset] [(.int (3999 : Int32)), (.int (3010 : Int32))])) _
    refine Goes.by (fun _ kz => XS.icmpNo X52.here hx rfl (hb hby at_66) rfl (flt (by decide : ¬ ((3999 : Int32) < (3010 : Int32)))).2.2.1 (XS.iconst X52.here hx rfl (hb hby at_69) (XS.goto X52.here hx rfl (pc0 := 70) (pc' := 74) rfl (hb hby at_70) (by decide) (by decide) kz))) ?_
    show Goes p e below (T52.setTop (mkF m 74 #[.val (.int p1), .val (.int (5 : Int32)), .val (.ref (w 4)), .val (.int (1 : Int32)), .val (.int (3010 : Int32)), .unset] [(.int (1 : Int32))])) _
    refine Goes.by (fun _ kz => XS.istore X52.here hx rfl (hb hby at_74) rfl (l' := #[.val (.int p1), .val (.int (5 : Int32)), .val (.ref (w 4)), .val (.int (1 : Int32)), .val (.int (3010 : Int32)), .val (.int (1 : Int32))]) rfl (XS.aloadN X52.here hx rfl (hb hby at_76) rfl rfl kz)) ?_
    obtain ⟨cq54, kq54, q54a, q54b, q54c⟩ := isOf hZ e52 P.2.2.2.2.2.2.2.2.2.1
    obtain ⟨_, _, ⟨T54, L54, k54, n54⟩, -, X54, ⟨Lc54, hQ54, l54, y54, z54⟩, st54⟩ := X52.virtualBack hx (y := (⟨"com/example/strict_credit/strictcredit/diameter/ResultCode", "isProtocolError", "()Z"⟩ : MethodName)) (z := (⟨"com/example/strict_credit/strictcredit/diameter/ResultCode", "isProtocolError", "()Z"⟩ : MethodName)) hown (mvT hZ (hw _ (List.mem_of_getElem? (i := 23) rfl))) (mvT hZ (hw _ (List.mem_of_getElem? (i := 24) rfl))) (notFace_of_selects (args := #[]) (mvT hZ (hw _ (List.mem_of_getElem? (i := 26) rfl)))) (mvT hZ (hw _ (List.mem_of_getElem? (i := 26) rfl))) (mvT hZ (hw _ (List.mem_of_getElem? (i := 25) rfl))) (by decide) (backOf (W := 0) (r3_17 l Z a0 hw [] h0 n0 Z0 w P) hZ (hw _ (List.mem_of_getElem? (i := 27) rfl)) (hw _ (List.mem_of_getElem? (i := 6) rfl)) (by decide) (by decide)) q54a q54c (g := (mkF m 77 #[.val (.int p1), .val (.int (5 : Int32)), .val (.ref (w 4)), .val (.int (1 : Int32)), .val (.int (3010 : Int32)), .val (.int (1 : Int32))] [(.ref (w 4))])) rfl (by rw [hml]; rfl) (Steps.refl _) (argsL := []) (rest := []) (lenOf pd2 rfl) rfl (by show 2 * 0 + _ ≤ _; exact Nat.le_of_eq rfl) (hb hby at_77) (fun _ _ => ⟨rfl, e52, (by decide : 0 + 0 ≤ _), (by decide : 0 + 0 ≤ _)⟩)
    dsimp only [Pt.U, Pt.locs, Pt.cells, Pt.slots] at X54 l54 y54 z54 st54 hQ54
    subst l54 y54 z54
    obtain ⟨rfl, Nq54, e54⟩ := hQ54
    have N54 := Fr.app N52 Nq54
    refine Goes.tr st54 ?_
    refine Goes.by (fun _ kz => XS.iloadN X54.here hx rfl (hb hby at_80) rfl (XS.icmpNo X54.here hx rfl (hb hby at_81) rfl (teq (by decide : (1 : Int32) = (1 : Int32))).2 (XS.iloadN X54.here hx rfl (hb hby at_84) rfl kz))) ?_
    show Goes p e below (T54.setTop (mkF m 85 #[.val (.int p1), .val (.int (5 : Int32)), .val (.ref (w 4)), .val (.int (1 : Int32)), .val (.int (3010 : Int32)), .val (.int (1 : Int32))] [(.int (1 : Int32))])) _
    refine Goes.by (fun _ kz => XS.iload X54.here hx rfl (hb hby at_85) rfl (XS.icmpNo X54.here hx rfl (hb hby at_87) rfl (teq (by decide : (1 : Int32) = (1 : Int32))).2 (XS.iconst X54.here hx rfl (hb hby at_90) kz))) ?_
    show Goes p e below (T54.setTop (mkF m 91 #[.val (.int p1), .val (.int (5 : Int32)), .val (.ref (w 4)), .val (.int (1 : Int32)), .val (.int (3010 : Int32)), .val (.int (1 : Int32))] [(.int (1 : Int32))])) _
    refine Goes.by (fun _ kz => XS.goto X54.here hx rfl (pc0 := 91) (pc' := 95) rfl (hb hby at_91) (by decide) (by decide) kz) ?_
    show Goes p e below (T54.setTop (mkF m 95 #[.val (.int p1), .val (.int (5 : Int32)), .val (.ref (w 4)), .val (.int (1 : Int32)), .val (.int (3010 : Int32)), .val (.int (1 : Int32))] [(.int (1 : Int32))])) _
    obtain ⟨fs, hr, hrun, hended, hW, hsame⟩ := X54.leave (v := some (.int (1 : Int32))) (fun h => by rw [Bd.returns] at h; cases h)
    exact ⟨_, _, retN X54 hx (t := .boolean) Bd.returns (by simp) (hb hby at_95) hr, hrun, hended, _, _, rfl, ⟨rfl, N54⟩, ⟨_, rfl⟩, hW, hsame.mono (by decide) (by decide)⟩
  · show Goes p e below (s₁.setTop (mkF m 8 #[.val (.int p1), .val (.int (6 : Int32)), .unset, .unset, .unset, .unset] [])) _
    refine Goes.by (fun _ kz => XS.iloadN X0.here hx rfl (hb hby at_8) rfl kz) ?_
    obtain ⟨_, _, ⟨T56, L56, k56, n56⟩, -, X56, ⟨Lc56, hQ56, l56, y56, z56⟩, st56⟩ := Jvm.LawKit.callS X0 hx (y := (⟨"com/example/strict_credit/strictcredit/diameter/ResultCodeIsProtocolErrorPinLaw", "pick", "(I)Lcom/example/strict_credit/strictcredit/diameter/ResultCode;"⟩ : MethodName)) hown (mvT hZ (hw _ (List.mem_of_getElem? (i := 1) rfl))) (mvT hZ (hw _ (List.mem_of_getElem? (i := 2) rfl))) (mvT hZ (hw _ (List.mem_of_getElem? (i := 3) rfl))) (mvT hZ (hw _ (List.mem_of_getElem? (i := 4) rfl))) (by decide) (backOf (W := 0) (r1_18 l Z a0 hw [] h0 n0 Z0 w P) hZ (hw _ (List.mem_of_getElem? (i := 4) rfl)) (hw _ (List.mem_of_getElem? (i := 3) rfl)) (by decide) (by decide)) (g := (mkF m 9 #[.val (.int p1), .val (.int (6 : Int32)), .unset, .unset, .unset, .unset] [(.int (6 : Int32))])) rfl (by rw [hml]; rfl) (argsL := [(.int (6 : Int32))]) (rest := []) (lenOf pd0 rfl) rfl (by show 2 * 0 + _ ≤ _; exact Nat.le_of_eq rfl) (hb hby at_9) (fun _ _ => ⟨rfl, e0, (by decide : 0 + 0 ≤ _), (by decide : 0 + 0 ≤ _)⟩)
    dsimp only [Pt.U, Pt.locs, Pt.cells, Pt.slots] at X56 l56 y56 z56 st56 hQ56
    subst l56 y56 z56
    obtain ⟨rfl, Nq56, e56⟩ := hQ56
    have N56 := Fr.app N0 Nq56
    refine Goes.by st56 ?_
    refine Goes.by (fun _ kz => XS.astoreN X56.here hx rfl (hb hby at_12) rfl rfl (l' := #[.val (.int p1), .val (.int (6 : Int32)), .val (.ref (w 13)), .unset, .unset, .unset]) rfl (XS.aloadN X56.here hx rfl (hb hby at_13) rfl rfl kz)) ?_
    obtain ⟨T57, X57, e57, st57⟩ := getS2 X56 hx hZ hown (host := "") (Or.inl (hw _ (List.mem_of_getElem? (i := 8) rfl))) Via.refl e56 P.2.2.1 (g := (mkF m 14 #[.val (.int p1), .val (.int (6 : Int32)), .val (.ref (w 13)), .unset, .unset, .unset] [(.ref (w 13))])) rfl (hb hby at_14)
    refine Goes.by st57 ?_
    refine Goes.by (fun _ kz => Jvm.RoadKit.acmp (g := (mkF m 17 #[.val (.int p1), .val (.int (6 : Int32)), .val (.ref (w 13)), .unset, .unset, .unset] [(.ref (w 1)), (.ref (w 13))])) X57 hx rfl rfl rfl (pc0 := 17) (pc' := 20) (same := false) rfl (hb hby at_17) rfl (decide_eq_false fun q => (Ne.symm (own_ne_1_13 P)) (Value.ref.inj q)) (by decide) (by decide) (XS.aloadN X57.here hx rfl (hb hby at_20) rfl rfl kz)) ?_
    obtain ⟨T58, X58, e58, st58⟩ := getS2 X57 hx hZ hown (host := "") (Or.inl (hw _ (List.mem_of_getElem? (i := 10) rfl))) Via.refl e57 P.2.2.2.2.1 (g := (mkF m 21 #[.val (.int p1), .val (.int (6 : Int32)), .val (.ref (w 13)), .unset, .unset, .unset] [(.ref (w 13))])) rfl (hb hby at_21)
    refine Goes.by st58 ?_
    refine Goes.by (fun _ kz => Jvm.RoadKit.acmp (g := (mkF m 24 #[.val (.int p1), .val (.int (6 : Int32)), .val (.ref (w 13)), .unset, .unset, .unset] [(.ref (w 2)), (.ref (w 13))])) X58 hx rfl rfl rfl (pc0 := 24) (pc' := 27) (same := false) rfl (hb hby at_24) rfl (decide_eq_false fun q => (Ne.symm (own_ne_2_13 P)) (Value.ref.inj q)) (by decide) (by decide) (XS.aloadN X58.here hx rfl (hb hby at_27) rfl rfl kz)) ?_
    obtain ⟨T59, X59, e59, st59⟩ := getS2 X58 hx hZ hown (host := "") (Or.inl (hw _ (List.mem_of_getElem? (i := 12) rfl))) Via.refl e58 P.2.2.2.2.2.2.1 (g := (mkF m 28 #[.val (.int p1), .val (.int (6 : Int32)), .val (.ref (w 13)), .unset, .unset, .unset] [(.ref (w 13))])) rfl (hb hby at_28)
    refine Goes.by st59 ?_
    refine Goes.by (fun _ kz => Jvm.RoadKit.acmp (g := (mkF m 31 #[.val (.int p1), .val (.int (6 : Int32)), .val (.ref (w 13)), .unset, .unset, .unset] [(.ref (w 3)), (.ref (w 13))])) X59 hx rfl rfl rfl (pc0 := 31) (pc' := 34) (same := false) rfl (hb hby at_31) rfl (decide_eq_false fun q => (Ne.symm (own_ne_3_13 P)) (Value.ref.inj q)) (by decide) (by decide) (XS.aloadN X59.here hx rfl (hb hby at_34) rfl rfl kz)) ?_
    obtain ⟨T60, X60, e60, st60⟩ := getS2 X59 hx hZ hown (host := "") (Or.inl (hw _ (List.mem_of_getElem? (i := 14) rfl))) Via.refl e59 P.2.2.2.2.2.2.2.2.1 (g := (mkF m 35 #[.val (.int p1), .val (.int (6 : Int32)), .val (.ref (w 13)), .unset, .unset, .unset] [(.ref (w 13))])) rfl (hb hby at_35)
    refine Goes.by st60 ?_
    refine Goes.by (fun _ kz => Jvm.RoadKit.acmp (g := (mkF m 38 #[.val (.int p1), .val (.int (6 : Int32)), .val (.ref (w 13)), .unset, .unset, .unset] [(.ref (w 4)), (.ref (w 13))])) X60 hx rfl rfl rfl (pc0 := 38) (pc' := 45) (same := false) rfl (hb hby at_38) rfl (decide_eq_false fun q => (Ne.symm (own_ne_4_13 P)) (Value.ref.inj q)) (by decide) (by decide) (XS.iconst X60.here hx rfl (hb hby at_45) (XS.istoreN X60.here hx rfl (hb hby at_46) rfl (l' := #[.val (.int p1), .val (.int (6 : Int32)), .val (.ref (w 13)), .val (.int (0 : Int32)), .unset, .unset]) rfl kz))) ?_
    show Goes p e below (T60.setTop (mkF m 47 #[.val (.int p1), .val (.int (6 : Int32)), .val (.ref (w 13)), .val (.int (0 : Int32)), .unset, .unset] [])) _
    refine Goes.by (fun _ kz => XS.aloadN X60.here hx rfl (hb hby at_47) rfl rfl kz) ?_
    obtain ⟨cq62, kq62, q62a, q62b, q62c⟩ := isOf hZ e60 P.2.2.2.2.2.2.2.2.2.2.2.2.2.2.2.2.2.2.2.2.2.2.2.2.2.2.2.1
    obtain ⟨_, _, ⟨T62, L62, k62, n62⟩, -, X62, ⟨Lc62, hQ62, l62, y62, z62⟩, st62⟩ := X60.virtualBack hx (y := (⟨"com/example/strict_credit/strictcredit/diameter/ResultCode", "code", "()I"⟩ : MethodName)) (z := (⟨"com/example/strict_credit/strictcredit/diameter/ResultCode", "code", "()I"⟩ : MethodName)) hown (mvT hZ (hw _ (List.mem_of_getElem? (i := 16) rfl))) (mvT hZ (hw _ (List.mem_of_getElem? (i := 17) rfl))) (notFace_of_selects (args := #[]) (mvT hZ (hw _ (List.mem_of_getElem? (i := 19) rfl)))) (mvT hZ (hw _ (List.mem_of_getElem? (i := 19) rfl))) (mvT hZ (hw _ (List.mem_of_getElem? (i := 18) rfl))) (by decide) (backOf (W := 0) (r2_19 l Z a0 hw [] h0 n0 Z0 w P) hZ (hw _ (List.mem_of_getElem? (i := 20) rfl)) (hw _ (List.mem_of_getElem? (i := 6) rfl)) (by decide) (by decide)) q62a q62c (g := (mkF m 48 #[.val (.int p1), .val (.int (6 : Int32)), .val (.ref (w 13)), .val (.int (0 : Int32)), .unset, .unset] [(.ref (w 13))])) rfl (by rw [hml]; rfl) (Steps.refl _) (argsL := []) (rest := []) (lenOf pd1 rfl) rfl (by show 2 * 0 + _ ≤ _; exact Nat.le_of_eq rfl) (hb hby at_48) (fun _ _ => ⟨rfl, e60, (by decide : 0 + 0 ≤ _), (by decide : 0 + 0 ≤ _)⟩)
    dsimp only [Pt.U, Pt.locs, Pt.cells, Pt.slots] at X62 l62 y62 z62 st62 hQ62
    subst l62 y62 z62
    obtain ⟨rfl, Nq62, e62⟩ := hQ62
    have N62 := Fr.app N56 Nq62
    refine Goes.tr st62 ?_
    refine Goes.by (fun _ kz => XS.istore X62.here hx rfl (hb hby at_51) rfl (l' := #[.val (.int p1), .val (.int (6 : Int32)), .val (.ref (w 13)), .val (.int (0 : Int32)), .val (.int (4010 : Int32)), .unset]) rfl (XS.iload X62.here hx rfl (hb hby at_53) rfl (XS.sipush X62.here hx rfl (hb hby at_55) kz))) ?_
    show Goes p e below (T62.setTop (mkF m 58 #[.val (.int p1), .val (.int (6 : Int32)), .val (.ref (w 13)), .val (.int (0 : Int32)), .val (.int (4010 : Int32)), .unset] [(.int (3000 : Int32)), (.int (4010 : Int32))])) _
    refine Goes.by (fun _ kz => XS.icmpNo X62.here hx rfl (hb hby at_58) rfl (flt (by decide : ¬ ((4010 : Int32) < (3000 : Int32)))).1 (XS.iload X62.here hx rfl (hb hby at_61) rfl (XS.sipush X62.here hx rfl (hb hby at_63) kz))) ?_
    show Goes p e below (T62.setTop (mkF m 66 #[.val (.int p1), .val (.int (6 : Int32)), .val (.ref (w 13)), .val (.int (0 : Int32)), .val (.int (4010 : Int32)), .unset] [(.int (3999 : Int32)), (.int (4010 : Int32))])) _
    refine Goes.by (fun _ kz => XS.icmpYes X62.here hx rfl (pc0 := 66) (pc' := 73) rfl (hb hby at_66) rfl (tlt (by decide : (3999 : Int32) < (4010 : Int32))).2.2.1 (by decide) (by decide) (XS.iconst X62.here hx rfl (hb hby at_73) (XS.istore X62.here hx rfl (hb hby at_74) rfl (l' := #[.val (.int p1), .val (.int (6 : Int32)), .val (.ref (w 13)), .val (.int (0 : Int32)), .val (.int (4010 : Int32)), .val (.int (0 : Int32))]) rfl kz))) ?_
    show Goes p e below (T62.setTop (mkF m 76 #[.val (.int p1), .val (.int (6 : Int32)), .val (.ref (w 13)), .val (.int (0 : Int32)), .val (.int (4010 : Int32)), .val (.int (0 : Int32))] [])) _
    refine Goes.by (fun _ kz => XS.aloadN X62.here hx rfl (hb hby at_76) rfl rfl kz) ?_
    obtain ⟨cq64, kq64, q64a, q64b, q64c⟩ := isOf hZ e62 P.2.2.2.2.2.2.2.2.2.2.2.2.2.2.2.2.2.2.2.2.2.2.2.2.2.2.2.1
    obtain ⟨_, _, ⟨T64, L64, k64, n64⟩, -, X64, ⟨Lc64, hQ64, l64, y64, z64⟩, st64⟩ := X62.virtualBack hx (y := (⟨"com/example/strict_credit/strictcredit/diameter/ResultCode", "isProtocolError", "()Z"⟩ : MethodName)) (z := (⟨"com/example/strict_credit/strictcredit/diameter/ResultCode", "isProtocolError", "()Z"⟩ : MethodName)) hown (mvT hZ (hw _ (List.mem_of_getElem? (i := 23) rfl))) (mvT hZ (hw _ (List.mem_of_getElem? (i := 24) rfl))) (notFace_of_selects (args := #[]) (mvT hZ (hw _ (List.mem_of_getElem? (i := 26) rfl)))) (mvT hZ (hw _ (List.mem_of_getElem? (i := 26) rfl))) (mvT hZ (hw _ (List.mem_of_getElem? (i := 25) rfl))) (by decide) (backOf (W := 0) (r3_20 l Z a0 hw [] h0 n0 Z0 w P) hZ (hw _ (List.mem_of_getElem? (i := 27) rfl)) (hw _ (List.mem_of_getElem? (i := 6) rfl)) (by decide) (by decide)) q64a q64c (g := (mkF m 77 #[.val (.int p1), .val (.int (6 : Int32)), .val (.ref (w 13)), .val (.int (0 : Int32)), .val (.int (4010 : Int32)), .val (.int (0 : Int32))] [(.ref (w 13))])) rfl (by rw [hml]; rfl) (Steps.refl _) (argsL := []) (rest := []) (lenOf pd2 rfl) rfl (by show 2 * 0 + _ ≤ _; exact Nat.le_of_eq rfl) (hb hby at_77) (fun _ _ => ⟨rfl, e62, (by decide : 0 + 0 ≤ _), (by decide : 0 + 0 ≤ _)⟩)
    dsimp only [Pt.U, Pt.locs, Pt.cells, Pt.slots] at X64 l64 y64 z64 st64 hQ64
    subst l64 y64 z64
    obtain ⟨rfl, Nq64, e64⟩ := hQ64
    have N64 := Fr.app N62 Nq64
    refine Goes.tr st64 ?_
    refine Goes.by (fun _ kz => XS.iloadN X64.here hx rfl (hb hby at_80) rfl (XS.icmpNo X64.here hx rfl (hb hby at_81) rfl (teq (by decide : (0 : Int32) = (0 : Int32))).2 (XS.iloadN X64.here hx rfl (hb hby at_84) rfl kz))) ?_
    show Goes p e below (T64.setTop (mkF m 85 #[.val (.int p1), .val (.int (6 : Int32)), .val (.ref (w 13)), .val (.int (0 : Int32)), .val (.int (4010 : Int32)), .val (.int (0 : Int32))] [(.int (0 : Int32))])) _
    refine Goes.by (fun _ kz => XS.iload X64.here hx rfl (hb hby at_85) rfl (XS.icmpNo X64.here hx rfl (hb hby at_87) rfl (teq (by decide : (0 : Int32) = (0 : Int32))).2 (XS.iconst X64.here hx rfl (hb hby at_90) kz))) ?_
    show Goes p e below (T64.setTop (mkF m 91 #[.val (.int p1), .val (.int (6 : Int32)), .val (.ref (w 13)), .val (.int (0 : Int32)), .val (.int (4010 : Int32)), .val (.int (0 : Int32))] [(.int (1 : Int32))])) _
    refine Goes.by (fun _ kz => XS.goto X64.here hx rfl (pc0 := 91) (pc' := 95) rfl (hb hby at_91) (by decide) (by decide) kz) ?_
    show Goes p e below (T64.setTop (mkF m 95 #[.val (.int p1), .val (.int (6 : Int32)), .val (.ref (w 13)), .val (.int (0 : Int32)), .val (.int (4010 : Int32)), .val (.int (0 : Int32))] [(.int (1 : Int32))])) _
    obtain ⟨fs, hr, hrun, hended, hW, hsame⟩ := X64.leave (v := some (.int (1 : Int32))) (fun h => by rw [Bd.returns] at h; cases h)
    exact ⟨_, _, retN X64 hx (t := .boolean) Bd.returns (by simp) (hb hby at_95) hr, hrun, hended, _, _, rfl, ⟨rfl, N64⟩, ⟨_, rfl⟩, hW, hsame.mono (by decide) (by decide)⟩
  · show Goes p e below (s₁.setTop (mkF m 8 #[.val (.int p1), .val (.int (7 : Int32)), .unset, .unset, .unset, .unset] [])) _
    refine Goes.by (fun _ kz => XS.iloadN X0.here hx rfl (hb hby at_8) rfl kz) ?_
    obtain ⟨_, _, ⟨T66, L66, k66, n66⟩, -, X66, ⟨Lc66, hQ66, l66, y66, z66⟩, st66⟩ := Jvm.LawKit.callS X0 hx (y := (⟨"com/example/strict_credit/strictcredit/diameter/ResultCodeIsProtocolErrorPinLaw", "pick", "(I)Lcom/example/strict_credit/strictcredit/diameter/ResultCode;"⟩ : MethodName)) hown (mvT hZ (hw _ (List.mem_of_getElem? (i := 1) rfl))) (mvT hZ (hw _ (List.mem_of_getElem? (i := 2) rfl))) (mvT hZ (hw _ (List.mem_of_getElem? (i := 3) rfl))) (mvT hZ (hw _ (List.mem_of_getElem? (i := 4) rfl))) (by decide) (backOf (W := 0) (r1_21 l Z a0 hw [] h0 n0 Z0 w P) hZ (hw _ (List.mem_of_getElem? (i := 4) rfl)) (hw _ (List.mem_of_getElem? (i := 3) rfl)) (by decide) (by decide)) (g := (mkF m 9 #[.val (.int p1), .val (.int (7 : Int32)), .unset, .unset, .unset, .unset] [(.int (7 : Int32))])) rfl (by rw [hml]; rfl) (argsL := [(.int (7 : Int32))]) (rest := []) (lenOf pd0 rfl) rfl (by show 2 * 0 + _ ≤ _; exact Nat.le_of_eq rfl) (hb hby at_9) (fun _ _ => ⟨rfl, e0, (by decide : 0 + 0 ≤ _), (by decide : 0 + 0 ≤ _)⟩)
    dsimp only [Pt.U, Pt.locs, Pt.cells, Pt.slots] at X66 l66 y66 z66 st66 hQ66
    subst l66 y66 z66
    obtain ⟨rfl, Nq66, e66⟩ := hQ66
    have N66 := Fr.app N0 Nq66
    refine Goes.by st66 ?_
    refine Goes.by (fun _ kz => XS.astoreN X66.here hx rfl (hb hby at_12) rfl rfl (l' := #[.val (.int p1), .val (.int (7 : Int32)), .val (.ref (w 8)), .unset, .unset, .unset]) rfl (XS.aloadN X66.here hx rfl (hb hby at_13) rfl rfl kz)) ?_
    obtain ⟨T67, X67, e67, st67⟩ := getS2 X66 hx hZ hown (host := "") (Or.inl (hw _ (List.mem_of_getElem? (i := 8) rfl))) Via.refl e66 P.2.2.1 (g := (mkF m 14 #[.val (.int p1), .val (.int (7 : Int32)), .val (.ref (w 8)), .unset, .unset, .unset] [(.ref (w 8))])) rfl (hb hby at_14)
    refine Goes.by st67 ?_
    refine Goes.by (fun _ kz => Jvm.RoadKit.acmp (g := (mkF m 17 #[.val (.int p1), .val (.int (7 : Int32)), .val (.ref (w 8)), .unset, .unset, .unset] [(.ref (w 1)), (.ref (w 8))])) X67 hx rfl rfl rfl (pc0 := 17) (pc' := 20) (same := false) rfl (hb hby at_17) rfl (decide_eq_false fun q => (Ne.symm (own_ne_1_8 P)) (Value.ref.inj q)) (by decide) (by decide) (XS.aloadN X67.here hx rfl (hb hby at_20) rfl rfl kz)) ?_
    obtain ⟨T68, X68, e68, st68⟩ := getS2 X67 hx hZ hown (host := "") (Or.inl (hw _ (List.mem_of_getElem? (i := 10) rfl))) Via.refl e67 P.2.2.2.2.1 (g := (mkF m 21 #[.val (.int p1), .val (.int (7 : Int32)), .val (.ref (w 8)), .unset, .unset, .unset] [(.ref (w 8))])) rfl (hb hby at_21)
    refine Goes.by st68 ?_
    refine Goes.by (fun _ kz => Jvm.RoadKit.acmp (g := (mkF m 24 #[.val (.int p1), .val (.int (7 : Int32)), .val (.ref (w 8)), .unset, .unset, .unset] [(.ref (w 2)), (.ref (w 8))])) X68 hx rfl rfl rfl (pc0 := 24) (pc' := 27) (same := false) rfl (hb hby at_24) rfl (decide_eq_false fun q => (Ne.symm (own_ne_2_8 P)) (Value.ref.inj q)) (by decide) (by decide) (XS.aloadN X68.here hx rfl (hb hby at_27) rfl rfl kz)) ?_
    obtain ⟨T69, X69, e69, st69⟩ := getS2 X68 hx hZ hown (host := "") (Or.inl (hw _ (List.mem_of_getElem? (i := 12) rfl))) Via.refl e68 P.2.2.2.2.2.2.1 (g := (mkF m 28 #[.val (.int p1), .val (.int (7 : Int32)), .val (.ref (w 8)), .unset, .unset, .unset] [(.ref (w 8))])) rfl (hb hby at_28)
    refine Goes.by st69 ?_
    refine Goes.by (fun _ kz => Jvm.RoadKit.acmp (g := (mkF m 31 #[.val (.int p1), .val (.int (7 : Int32)), .val (.ref (w 8)), .unset, .unset, .unset] [(.ref (w 3)), (.ref (w 8))])) X69 hx rfl rfl rfl (pc0 := 31) (pc' := 34) (same := false) rfl (hb hby at_31) rfl (decide_eq_false fun q => (Ne.symm (own_ne_3_8 P)) (Value.ref.inj q)) (by decide) (by decide) (XS.aloadN X69.here hx rfl (hb hby at_34) rfl rfl kz)) ?_
    obtain ⟨T70, X70, e70, st70⟩ := getS2 X69 hx hZ hown (host := "") (Or.inl (hw _ (List.mem_of_getElem? (i := 14) rfl))) Via.refl e69 P.2.2.2.2.2.2.2.2.1 (g := (mkF m 35 #[.val (.int p1), .val (.int (7 : Int32)), .val (.ref (w 8)), .unset, .unset, .unset] [(.ref (w 8))])) rfl (hb hby at_35)
    refine Goes.by st70 ?_
    refine Goes.by (fun _ kz => Jvm.RoadKit.acmp (g := (mkF m 38 #[.val (.int p1), .val (.int (7 : Int32)), .val (.ref (w 8)), .unset, .unset, .unset] [(.ref (w 4)), (.ref (w 8))])) X70 hx rfl rfl rfl (pc0 := 38) (pc' := 45) (same := false) rfl (hb hby at_38) rfl (decide_eq_false fun q => (Ne.symm (own_ne_4_8 P)) (Value.ref.inj q)) (by decide) (by decide) (XS.iconst X70.here hx rfl (hb hby at_45) (XS.istoreN X70.here hx rfl (hb hby at_46) rfl (l' := #[.val (.int p1), .val (.int (7 : Int32)), .val (.ref (w 8)), .val (.int (0 : Int32)), .unset, .unset]) rfl kz))) ?_
    show Goes p e below (T70.setTop (mkF m 47 #[.val (.int p1), .val (.int (7 : Int32)), .val (.ref (w 8)), .val (.int (0 : Int32)), .unset, .unset] [])) _
    refine Goes.by (fun _ kz => XS.aloadN X70.here hx rfl (hb hby at_47) rfl rfl kz) ?_
    obtain ⟨cq72, kq72, q72a, q72b, q72c⟩ := isOf hZ e70 P.2.2.2.2.2.2.2.2.2.2.2.2.2.2.2.2.2.1
    obtain ⟨_, _, ⟨T72, L72, k72, n72⟩, -, X72, ⟨Lc72, hQ72, l72, y72, z72⟩, st72⟩ := X70.virtualBack hx (y := (⟨"com/example/strict_credit/strictcredit/diameter/ResultCode", "code", "()I"⟩ : MethodName)) (z := (⟨"com/example/strict_credit/strictcredit/diameter/ResultCode", "code", "()I"⟩ : MethodName)) hown (mvT hZ (hw _ (List.mem_of_getElem? (i := 16) rfl))) (mvT hZ (hw _ (List.mem_of_getElem? (i := 17) rfl))) (notFace_of_selects (args := #[]) (mvT hZ (hw _ (List.mem_of_getElem? (i := 19) rfl)))) (mvT hZ (hw _ (List.mem_of_getElem? (i := 19) rfl))) (mvT hZ (hw _ (List.mem_of_getElem? (i := 18) rfl))) (by decide) (backOf (W := 0) (r2_22 l Z a0 hw [] h0 n0 Z0 w P) hZ (hw _ (List.mem_of_getElem? (i := 20) rfl)) (hw _ (List.mem_of_getElem? (i := 6) rfl)) (by decide) (by decide)) q72a q72c (g := (mkF m 48 #[.val (.int p1), .val (.int (7 : Int32)), .val (.ref (w 8)), .val (.int (0 : Int32)), .unset, .unset] [(.ref (w 8))])) rfl (by rw [hml]; rfl) (Steps.refl _) (argsL := []) (rest := []) (lenOf pd1 rfl) rfl (by show 2 * 0 + _ ≤ _; exact Nat.le_of_eq rfl) (hb hby at_48) (fun _ _ => ⟨rfl, e70, (by decide : 0 + 0 ≤ _), (by decide : 0 + 0 ≤ _)⟩)
    dsimp only [Pt.U, Pt.locs, Pt.cells, Pt.slots] at X72 l72 y72 z72 st72 hQ72
    subst l72 y72 z72
    obtain ⟨rfl, Nq72, e72⟩ := hQ72
    have N72 := Fr.app N66 Nq72
    refine Goes.tr st72 ?_
    refine Goes.by (fun _ kz => XS.istore X72.here hx rfl (hb hby at_51) rfl (l' := #[.val (.int p1), .val (.int (7 : Int32)), .val (.ref (w 8)), .val (.int (0 : Int32)), .val (.int (4012 : Int32)), .unset]) rfl (XS.iload X72.here hx rfl (hb hby at_53) rfl (XS.sipush X72.here hx rfl (hb hby at_55) kz))) ?_
    show Goes p e below (T72.setTop (mkF m 58 #[.val (.int p1), .val (.int (7 : Int32)), .val (.ref (w 8)), .val (.int (0 : Int32)), .val (.int (4012 : Int32)), .unset] [(.int (3000 : Int32)), (.int (4012 : Int32))])) _
    refine Goes.by (fun _ kz => XS.icmpNo X72.here hx rfl (hb hby at_58) rfl (flt (by decide : ¬ ((4012 : Int32) < (3000 : Int32)))).1 (XS.iload X72.here hx rfl (hb hby at_61) rfl (XS.sipush X72.here hx rfl (hb hby at_63) kz))) ?_
    show Goes p e below (T72.setTop (mkF m 66 #[.val (.int p1), .val (.int (7 : Int32)), .val (.ref (w 8)), .val (.int (0 : Int32)), .val (.int (4012 : Int32)), .unset] [(.int (3999 : Int32)), (.int (4012 : Int32))])) _
    refine Goes.by (fun _ kz => XS.icmpYes X72.here hx rfl (pc0 := 66) (pc' := 73) rfl (hb hby at_66) rfl (tlt (by decide : (3999 : Int32) < (4012 : Int32))).2.2.1 (by decide) (by decide) (XS.iconst X72.here hx rfl (hb hby at_73) (XS.istore X72.here hx rfl (hb hby at_74) rfl (l' := #[.val (.int p1), .val (.int (7 : Int32)), .val (.ref (w 8)), .val (.int (0 : Int32)), .val (.int (4012 : Int32)), .val (.int (0 : Int32))]) rfl kz))) ?_
    show Goes p e below (T72.setTop (mkF m 76 #[.val (.int p1), .val (.int (7 : Int32)), .val (.ref (w 8)), .val (.int (0 : Int32)), .val (.int (4012 : Int32)), .val (.int (0 : Int32))] [])) _
    refine Goes.by (fun _ kz => XS.aloadN X72.here hx rfl (hb hby at_76) rfl rfl kz) ?_
    obtain ⟨cq74, kq74, q74a, q74b, q74c⟩ := isOf hZ e72 P.2.2.2.2.2.2.2.2.2.2.2.2.2.2.2.2.2.1
    obtain ⟨_, _, ⟨T74, L74, k74, n74⟩, -, X74, ⟨Lc74, hQ74, l74, y74, z74⟩, st74⟩ := X72.virtualBack hx (y := (⟨"com/example/strict_credit/strictcredit/diameter/ResultCode", "isProtocolError", "()Z"⟩ : MethodName)) (z := (⟨"com/example/strict_credit/strictcredit/diameter/ResultCode", "isProtocolError", "()Z"⟩ : MethodName)) hown (mvT hZ (hw _ (List.mem_of_getElem? (i := 23) rfl))) (mvT hZ (hw _ (List.mem_of_getElem? (i := 24) rfl))) (notFace_of_selects (args := #[]) (mvT hZ (hw _ (List.mem_of_getElem? (i := 26) rfl)))) (mvT hZ (hw _ (List.mem_of_getElem? (i := 26) rfl))) (mvT hZ (hw _ (List.mem_of_getElem? (i := 25) rfl))) (by decide) (backOf (W := 0) (r3_23 l Z a0 hw [] h0 n0 Z0 w P) hZ (hw _ (List.mem_of_getElem? (i := 27) rfl)) (hw _ (List.mem_of_getElem? (i := 6) rfl)) (by decide) (by decide)) q74a q74c (g := (mkF m 77 #[.val (.int p1), .val (.int (7 : Int32)), .val (.ref (w 8)), .val (.int (0 : Int32)), .val (.int (4012 : Int32)), .val (.int (0 : Int32))] [(.ref (w 8))])) rfl (by rw [hml]; rfl) (Steps.refl _) (argsL := []) (rest := []) (lenOf pd2 rfl) rfl (by show 2 * 0 + _ ≤ _; exact Nat.le_of_eq rfl) (hb hby at_77) (fun _ _ => ⟨rfl, e72, (by decide : 0 + 0 ≤ _), (by decide : 0 + 0 ≤ _)⟩)
    dsimp only [Pt.U, Pt.locs, Pt.cells, Pt.slots] at X74 l74 y74 z74 st74 hQ74
    subst l74 y74 z74
    obtain ⟨rfl, Nq74, e74⟩ := hQ74
    have N74 := Fr.app N72 Nq74
    refine Goes.tr st74 ?_
    refine Goes.by (fun _ kz => XS.iloadN X74.here hx rfl (hb hby at_80) rfl (XS.icmpNo X74.here hx rfl (hb hby at_81) rfl (teq (by decide : (0 : Int32) = (0 : Int32))).2 (XS.iloadN X74.here hx rfl (hb hby at_84) rfl kz))) ?_
    show Goes p e below (T74.setTop (mkF m 85 #[.val (.int p1), .val (.int (7 : Int32)), .val (.ref (w 8)), .val (.int (0 : Int32)), .val (.int (4012 : Int32)), .val (.int (0 : Int32))] [(.int (0 : Int32))])) _
    refine Goes.by (fun _ kz => XS.iload X74.here hx rfl (hb hby at_85) rfl (XS.icmpNo X74.here hx rfl (hb hby at_87) rfl (teq (by decide : (0 : Int32) = (0 : Int32))).2 (XS.iconst X74.here hx rfl (hb hby at_90) kz))) ?_
    show Goes p e below (T74.setTop (mkF m 91 #[.val (.int p1), .val (.int (7 : Int32)), .val (.ref (w 8)), .val (.int (0 : Int32)), .val (.int (4012 : Int32)), .val (.int (0 : Int32))] [(.int (1 : Int32))])) _
    refine Goes.by (fun _ kz => XS.goto X74.here hx rfl (pc0 := 91) (pc' := 95) rfl (hb hby at_91) (by decide) (by decide) kz) ?_
    show Goes p e below (T74.setTop (mkF m 95 #[.val (.int p1), .val (.int (7 : Int32)), .val (.ref (w 8)), .val (.int (0 : Int32)), .val (.int (4012 : Int32)), .val (.int (0 : Int32))] [(.int (1 : Int32))])) _
    obtain ⟨fs, hr, hrun, hended, hW, hsame⟩ := X74.leave (v := some (.int (1 : Int32))) (fun h => by rw [Bd.returns] at h; cases h)
    exact ⟨_, _, retN X74 hx (t := .boolean) Bd.returns (by simp) (hb hby at_95) hr, hrun, hended, _, _, rfl, ⟨rfl, N74⟩, ⟨_, rfl⟩, hW, hsame.mono (by decide) (by decide)⟩
  · show Goes p e below (s₁.setTop (mkF m 8 #[.val (.int p1), .val (.int (8 : Int32)), .unset, .unset, .unset, .unset] [])) _
    refine Goes.by (fun _ kz => XS.iloadN X0.here hx rfl (hb hby at_8) rfl kz) ?_
    obtain ⟨_, _, ⟨T76, L76, k76, n76⟩, -, X76, ⟨Lc76, hQ76, l76, y76, z76⟩, st76⟩ := Jvm.LawKit.callS X0 hx (y := (⟨"com/example/strict_credit/strictcredit/diameter/ResultCodeIsProtocolErrorPinLaw", "pick", "(I)Lcom/example/strict_credit/strictcredit/diameter/ResultCode;"⟩ : MethodName)) hown (mvT hZ (hw _ (List.mem_of_getElem? (i := 1) rfl))) (mvT hZ (hw _ (List.mem_of_getElem? (i := 2) rfl))) (mvT hZ (hw _ (List.mem_of_getElem? (i := 3) rfl))) (mvT hZ (hw _ (List.mem_of_getElem? (i := 4) rfl))) (by decide) (backOf (W := 0) (r1_24 l Z a0 hw [] h0 n0 Z0 w P) hZ (hw _ (List.mem_of_getElem? (i := 4) rfl)) (hw _ (List.mem_of_getElem? (i := 3) rfl)) (by decide) (by decide)) (g := (mkF m 9 #[.val (.int p1), .val (.int (8 : Int32)), .unset, .unset, .unset, .unset] [(.int (8 : Int32))])) rfl (by rw [hml]; rfl) (argsL := [(.int (8 : Int32))]) (rest := []) (lenOf pd0 rfl) rfl (by show 2 * 0 + _ ≤ _; exact Nat.le_of_eq rfl) (hb hby at_9) (fun _ _ => ⟨rfl, e0, (by decide : 0 + 0 ≤ _), (by decide : 0 + 0 ≤ _)⟩)
    dsimp only [Pt.U, Pt.locs, Pt.cells, Pt.slots] at X76 l76 y76 z76 st76 hQ76
    subst l76 y76 z76
    obtain ⟨rfl, Nq76, e76⟩ := hQ76
    have N76 := Fr.app N0 Nq76
    refine Goes.by st76 ?_
    refine Goes.by (fun _ kz => XS.astoreN X76.here hx rfl (hb hby at_12) rfl rfl (l' := #[.val (.int p1), .val (.int (8 : Int32)), .val (.ref (w 9)), .unset, .unset, .unset]) rfl (XS.aloadN X76.here hx rfl (hb hby at_13) rfl rfl kz)) ?_
    obtain ⟨T77, X77, e77, st77⟩ := getS2 X76 hx hZ hown (host := "") (Or.inl (hw _ (List.mem_of_getElem? (i := 8) rfl))) Via.refl e76 P.2.2.1 (g := (mkF m 14 #[.val (.int p1), .val (.int (8 : Int32)), .val (.ref (w 9)), .unset, .unset, .unset] [(.ref (w 9))])) rfl (hb hby at_14)
    refine Goes.by st77 ?_
    refine Goes.by (fun _ kz => Jvm.RoadKit.acmp (g := (mkF m 17 #[.val (.int p1), .val (.int (8 : Int32)), .val (.ref (w 9)), .unset, .unset, .unset] [(.ref (w 1)), (.ref (w 9))])) X77 hx rfl rfl rfl (pc0 := 17) (pc' := 20) (same := false) rfl (hb hby at_17) rfl (decide_eq_false fun q => (Ne.symm (own_ne_1_9 P)) (Value.ref.inj q)) (by decide) (by decide) (XS.aloadN X77.here hx rfl (hb hby at_20) rfl rfl kz)) ?_
    obtain ⟨T78, X78, e78, st78⟩ := getS2 X77 hx hZ hown (host := "") (Or.inl (hw _ (List.mem_of_getElem? (i := 10) rfl))) Via.refl e77 P.2.2.2.2.1 (g := (mkF m 21 #[.val (.int p1), .val (.int (8 : Int32)), .val (.ref (w 9)), .unset, .unset, .unset] [(.ref (w 9))])) rfl (hb hby at_21)
    refine Goes.by st78 ?_
    refine Goes.by (fun _ kz => Jvm.RoadKit.acmp (g := (mkF m 24 #[.val (.int p1), .val (.int (8 : Int32)), .val (.ref (w 9)), .unset, .unset, .unset] [(.ref (w 2)), (.ref (w 9))])) X78 hx rfl rfl rfl (pc0 := 24) (pc' := 27) (same := false) rfl (hb hby at_24) rfl (decide_eq_false fun q => (Ne.symm (own_ne_2_9 P)) (Value.ref.inj q)) (by decide) (by decide) (XS.aloadN X78.here hx rfl (hb hby at_27) rfl rfl kz)) ?_
    obtain ⟨T79, X79, e79, st79⟩ := getS2 X78 hx hZ hown (host := "") (Or.inl (hw _ (List.mem_of_getElem? (i := 12) rfl))) Via.refl e78 P.2.2.2.2.2.2.1 (g := (mkF m 28 #[.val (.int p1), .val (.int (8 : Int32)), .val (.ref (w 9)), .unset, .unset, .unset] [(.ref (w 9))])) rfl (hb hby at_28)
    refine Goes.by st79 ?_
    refine Goes.by (fun _ kz => Jvm.RoadKit.acmp (g := (mkF m 31 #[.val (.int p1), .val (.int (8 : Int32)), .val (.ref (w 9)), .unset, .unset, .unset] [(.ref (w 3)), (.ref (w 9))])) X79 hx rfl rfl rfl (pc0 := 31) (pc' := 34) (same := false) rfl (hb hby at_31) rfl (decide_eq_false fun q => (Ne.symm (own_ne_3_9 P)) (Value.ref.inj q)) (by decide) (by decide) (XS.aloadN X79.here hx rfl (hb hby at_34) rfl rfl kz)) ?_
    obtain ⟨T80, X80, e80, st80⟩ := getS2 X79 hx hZ hown (host := "") (Or.inl (hw _ (List.mem_of_getElem? (i := 14) rfl))) Via.refl e79 P.2.2.2.2.2.2.2.2.1 (g := (mkF m 35 #[.val (.int p1), .val (.int (8 : Int32)), .val (.ref (w 9)), .unset, .unset, .unset] [(.ref (w 9))])) rfl (hb hby at_35)
    refine Goes.by st80 ?_
    refine Goes.by (fun _ kz => Jvm.RoadKit.acmp (g := (mkF m 38 #[.val (.int p1), .val (.int (8 : Int32)), .val (.ref (w 9)), .unset, .unset, .unset] [(.ref (w 4)), (.ref (w 9))])) X80 hx rfl rfl rfl (pc0 := 38) (pc' := 45) (same := false) rfl (hb hby at_38) rfl (decide_eq_false fun q => (Ne.symm (own_ne_4_9 P)) (Value.ref.inj q)) (by decide) (by decide) (XS.iconst X80.here hx rfl (hb hby at_45) (XS.istoreN X80.here hx rfl (hb hby at_46) rfl (l' := #[.val (.int p1), .val (.int (8 : Int32)), .val (.ref (w 9)), .val (.int (0 : Int32)), .unset, .unset]) rfl kz))) ?_
    show Goes p e below (T80.setTop (mkF m 47 #[.val (.int p1), .val (.int (8 : Int32)), .val (.ref (w 9)), .val (.int (0 : Int32)), .unset, .unset] [])) _
    refine Goes.by (fun _ kz => XS.aloadN X80.here hx rfl (hb hby at_47) rfl rfl kz) ?_
    obtain ⟨cq82, kq82, q82a, q82b, q82c⟩ := isOf hZ e80 P.2.2.2.2.2.2.2.2.2.2.2.2.2.2.2.2.2.2.2.1
    obtain ⟨_, _, ⟨T82, L82, k82, n82⟩, -, X82, ⟨Lc82, hQ82, l82, y82, z82⟩, st82⟩ := X80.virtualBack hx (y := (⟨"com/example/strict_credit/strictcredit/diameter/ResultCode", "code", "()I"⟩ : MethodName)) (z := (⟨"com/example/strict_credit/strictcredit/diameter/ResultCode", "code", "()I"⟩ : MethodName)) hown (mvT hZ (hw _ (List.mem_of_getElem? (i := 16) rfl))) (mvT hZ (hw _ (List.mem_of_getElem? (i := 17) rfl))) (notFace_of_selects (args := #[]) (mvT hZ (hw _ (List.mem_of_getElem? (i := 19) rfl)))) (mvT hZ (hw _ (List.mem_of_getElem? (i := 19) rfl))) (mvT hZ (hw _ (List.mem_of_getElem? (i := 18) rfl))) (by decide) (backOf (W := 0) (r2_25 l Z a0 hw [] h0 n0 Z0 w P) hZ (hw _ (List.mem_of_getElem? (i := 20) rfl)) (hw _ (List.mem_of_getElem? (i := 6) rfl)) (by decide) (by decide)) q82a q82c (g := (mkF m 48 #[.val (.int p1), .val (.int (8 : Int32)), .val (.ref (w 9)), .val (.int (0 : Int32)), .unset, .unset] [(.ref (w 9))])) rfl (by rw [hml]; rfl) (Steps.refl _) (argsL := []) (rest := []) (lenOf pd1 rfl) rfl (by show 2 * 0 + _ ≤ _; exact Nat.le_of_eq rfl) (hb hby at_48) (fun _ _ => ⟨rfl, e80, (by decide : 0 + 0 ≤ _), (by decide : 0 + 0 ≤ _)⟩)
    dsimp only [Pt.U, Pt.locs, Pt.cells, Pt.slots] at X82 l82 y82 z82 st82 hQ82
    subst l82 y82 z82
    obtain ⟨rfl, Nq82, e82⟩ := hQ82
    have N82 := Fr.app N76 Nq82
    refine Goes.tr st82 ?_
    refine Goes.by (fun _ kz => XS.istore X82.here hx rfl (hb hby at_51) rfl (l' := #[.val (.int p1), .val (.int (8 : Int32)), .val (.ref (w 9)), .val (.int (0 : Int32)), .val (.int (5001 : Int32)), .unset]) rfl (XS.iload X82.here hx rfl (hb hby at_53) rfl (XS.sipush X82.here hx rfl (hb hby at_55) kz))) ?_
    show Goes p e below (T82.setTop (mkF m 58 #[.val (.int p1), .val (.int (8 : Int32)), .val (.ref (w 9)), .val (.int (0 : Int32)), .val (.int (5001 : Int32)), .unset] [(.int (3000 : Int32)), (.int (5001 : Int32))])) _
    refine Goes.by (fun _ kz => XS.icmpNo X82.here hx rfl (hb hby at_58) rfl (flt (by decide : ¬ ((5001 : Int32) < (3000 : Int32)))).1 (XS.iload X82.here hx rfl (hb hby at_61) rfl (XS.sipush X82.here hx rfl (hb hby at_63) kz))) ?_
    show Goes p e below (T82.setTop (mkF m 66 #[.val (.int p1), .val (.int (8 : Int32)), .val (.ref (w 9)), .val (.int (0 : Int32)), .val (.int (5001 : Int32)), .unset] [(.int (3999 : Int32)), (.int (5001 : Int32))])) _
    refine Goes.by (fun _ kz => XS.icmpYes X82.here hx rfl (pc0 := 66) (pc' := 73) rfl (hb hby at_66) rfl (tlt (by decide : (3999 : Int32) < (5001 : Int32))).2.2.1 (by decide) (by decide) (XS.iconst X82.here hx rfl (hb hby at_73) (XS.istore X82.here hx rfl (hb hby at_74) rfl (l' := #[.val (.int p1), .val (.int (8 : Int32)), .val (.ref (w 9)), .val (.int (0 : Int32)), .val (.int (5001 : Int32)), .val (.int (0 : Int32))]) rfl kz))) ?_
    show Goes p e below (T82.setTop (mkF m 76 #[.val (.int p1), .val (.int (8 : Int32)), .val (.ref (w 9)), .val (.int (0 : Int32)), .val (.int (5001 : Int32)), .val (.int (0 : Int32))] [])) _
    refine Goes.by (fun _ kz => XS.aloadN X82.here hx rfl (hb hby at_76) rfl rfl kz) ?_
    obtain ⟨cq84, kq84, q84a, q84b, q84c⟩ := isOf hZ e82 P.2.2.2.2.2.2.2.2.2.2.2.2.2.2.2.2.2.2.2.1
    obtain ⟨_, _, ⟨T84, L84, k84, n84⟩, -, X84, ⟨Lc84, hQ84, l84, y84, z84⟩, st84⟩ := X82.virtualBack hx (y := (⟨"com/example/strict_credit/strictcredit/diameter/ResultCode", "isProtocolError", "()Z"⟩ : MethodName)) (z := (⟨"com/example/strict_credit/strictcredit/diameter/ResultCode", "isProtocolError", "()Z"⟩ : MethodName)) hown (mvT hZ (hw _ (List.mem_of_getElem? (i := 23) rfl))) (mvT hZ (hw _ (List.mem_of_getElem? (i := 24) rfl))) (notFace_of_selects (args := #[]) (mvT hZ (hw _ (List.mem_of_getElem? (i := 26) rfl)))) (mvT hZ (hw _ (List.mem_of_getElem? (i := 26) rfl))) (mvT hZ (hw _ (List.mem_of_getElem? (i := 25) rfl))) (by decide) (backOf (W := 0) (r3_26 l Z a0 hw [] h0 n0 Z0 w P) hZ (hw _ (List.mem_of_getElem? (i := 27) rfl)) (hw _ (List.mem_of_getElem? (i := 6) rfl)) (by decide) (by decide)) q84a q84c (g := (mkF m 77 #[.val (.int p1), .val (.int (8 : Int32)), .val (.ref (w 9)), .val (.int (0 : Int32)), .val (.int (5001 : Int32)), .val (.int (0 : Int32))] [(.ref (w 9))])) rfl (by rw [hml]; rfl) (Steps.refl _) (argsL := []) (rest := []) (lenOf pd2 rfl) rfl (by show 2 * 0 + _ ≤ _; exact Nat.le_of_eq rfl) (hb hby at_77) (fun _ _ => ⟨rfl, e82, (by decide : 0 + 0 ≤ _), (by decide : 0 + 0 ≤ _)⟩)
    dsimp only [Pt.U, Pt.locs, Pt.cells, Pt.slots] at X84 l84 y84 z84 st84 hQ84
    subst l84 y84 z84
    obtain ⟨rfl, Nq84, e84⟩ := hQ84
    have N84 := Fr.app N82 Nq84
    refine Goes.tr st84 ?_
    refine Goes.by (fun _ kz => XS.iloadN X84.here hx rfl (hb hby at_80) rfl (XS.icmpNo X84.here hx rfl (hb hby at_81) rfl (teq (by decide : (0 : Int32) = (0 : Int32))).2 (XS.iloadN X84.here hx rfl (hb hby at_84) rfl kz))) ?_
    show Goes p e below (T84.setTop (mkF m 85 #[.val (.int p1), .val (.int (8 : Int32)), .val (.ref (w 9)), .val (.int (0 : Int32)), .val (.int (5001 : Int32)), .val (.int (0 : Int32))] [(.int (0 : Int32))])) _
    refine Goes.by (fun _ kz => XS.iload X84.here hx rfl (hb hby at_85) rfl (XS.icmpNo X84.here hx rfl (hb hby at_87) rfl (teq (by decide : (0 : Int32) = (0 : Int32))).2 (XS.iconst X84.here hx rfl (hb hby at_90) kz))) ?_
    show Goes p e below (T84.setTop (mkF m 91 #[.val (.int p1), .val (.int (8 : Int32)), .val (.ref (w 9)), .val (.int (0 : Int32)), .val (.int (5001 : Int32)), .val (.int (0 : Int32))] [(.int (1 : Int32))])) _
    refine Goes.by (fun _ kz => XS.goto X84.here hx rfl (pc0 := 91) (pc' := 95) rfl (hb hby at_91) (by decide) (by decide) kz) ?_
    show Goes p e below (T84.setTop (mkF m 95 #[.val (.int p1), .val (.int (8 : Int32)), .val (.ref (w 9)), .val (.int (0 : Int32)), .val (.int (5001 : Int32)), .val (.int (0 : Int32))] [(.int (1 : Int32))])) _
    obtain ⟨fs, hr, hrun, hended, hW, hsame⟩ := X84.leave (v := some (.int (1 : Int32))) (fun h => by rw [Bd.returns] at h; cases h)
    exact ⟨_, _, retN X84 hx (t := .boolean) Bd.returns (by simp) (hb hby at_95) hr, hrun, hended, _, _, rfl, ⟨rfl, N84⟩, ⟨_, rfl⟩, hW, hsame.mono (by decide) (by decide)⟩
  · show Goes p e below (s₁.setTop (mkF m 8 #[.val (.int p1), .val (.int (9 : Int32)), .unset, .unset, .unset, .unset] [])) _
    refine Goes.by (fun _ kz => XS.iloadN X0.here hx rfl (hb hby at_8) rfl kz) ?_
    obtain ⟨_, _, ⟨T86, L86, k86, n86⟩, -, X86, ⟨Lc86, hQ86, l86, y86, z86⟩, st86⟩ := Jvm.LawKit.callS X0 hx (y := (⟨"com/example/strict_credit/strictcredit/diameter/ResultCodeIsProtocolErrorPinLaw", "pick", "(I)Lcom/example/strict_credit/strictcredit/diameter/ResultCode;"⟩ : MethodName)) hown (mvT hZ (hw _ (List.mem_of_getElem? (i := 1) rfl))) (mvT hZ (hw _ (List.mem_of_getElem? (i := 2) rfl))) (mvT hZ (hw _ (List.mem_of_getElem? (i := 3) rfl))) (mvT hZ (hw _ (List.mem_of_getElem? (i := 4) rfl))) (by decide) (backOf (W := 0) (r1_27 l Z a0 hw [] h0 n0 Z0 w P) hZ (hw _ (List.mem_of_getElem? (i := 4) rfl)) (hw _ (List.mem_of_getElem? (i := 3) rfl)) (by decide) (by decide)) (g := (mkF m 9 #[.val (.int p1), .val (.int (9 : Int32)), .unset, .unset, .unset, .unset] [(.int (9 : Int32))])) rfl (by rw [hml]; rfl) (argsL := [(.int (9 : Int32))]) (rest := []) (lenOf pd0 rfl) rfl (by show 2 * 0 + _ ≤ _; exact Nat.le_of_eq rfl) (hb hby at_9) (fun _ _ => ⟨rfl, e0, (by decide : 0 + 0 ≤ _), (by decide : 0 + 0 ≤ _)⟩)
    dsimp only [Pt.U, Pt.locs, Pt.cells, Pt.slots] at X86 l86 y86 z86 st86 hQ86
    subst l86 y86 z86
    obtain ⟨rfl, Nq86, e86⟩ := hQ86
    have N86 := Fr.app N0 Nq86
    refine Goes.by st86 ?_
    refine Goes.by (fun _ kz => XS.astoreN X86.here hx rfl (hb hby at_12) rfl rfl (l' := #[.val (.int p1), .val (.int (9 : Int32)), .val (.ref (w 17)), .unset, .unset, .unset]) rfl (XS.aloadN X86.here hx rfl (hb hby at_13) rfl rfl kz)) ?_
    obtain ⟨T87, X87, e87, st87⟩ := getS2 X86 hx hZ hown (host := "") (Or.inl (hw _ (List.mem_of_getElem? (i := 8) rfl))) Via.refl e86 P.2.2.1 (g := (mkF m 14 #[.val (.int p1), .val (.int (9 : Int32)), .val (.ref (w 17)), .unset, .unset, .unset] [(.ref (w 17))])) rfl (hb hby at_14)
    refine Goes.by st87 ?_
    refine Goes.by (fun _ kz => Jvm.RoadKit.acmp (g := (mkF m 17 #[.val (.int p1), .val (.int (9 : Int32)), .val (.ref (w 17)), .unset, .unset, .unset] [(.ref (w 1)), (.ref (w 17))])) X87 hx rfl rfl rfl (pc0 := 17) (pc' := 20) (same := false) rfl (hb hby at_17) rfl (decide_eq_false fun q => (Ne.symm (own_ne_1_17 P)) (Value.ref.inj q)) (by decide) (by decide) (XS.aloadN X87.here hx rfl (hb hby at_20) rfl rfl kz)) ?_
    obtain ⟨T88, X88, e88, st88⟩ := getS2 X87 hx hZ hown (host := "") (Or.inl (hw _ (List.mem_of_getElem? (i := 10) rfl))) Via.refl e87 P.2.2.2.2.1 (g := (mkF m 21 #[.val (.int p1), .val (.int (9 : Int32)), .val (.ref (w 17)), .unset, .unset, .unset] [(.ref (w 17))])) rfl (hb hby at_21)
    refine Goes.by st88 ?_
    refine Goes.by (fun _ kz => Jvm.RoadKit.acmp (g := (mkF m 24 #[.val (.int p1), .val (.int (9 : Int32)), .val (.ref (w 17)), .unset, .unset, .unset] [(.ref (w 2)), (.ref (w 17))])) X88 hx rfl rfl rfl (pc0 := 24) (pc' := 27) (same := false) rfl (hb hby at_24) rfl (decide_eq_false fun q => (Ne.symm (own_ne_2_17 P)) (Value.ref.inj q)) (by decide) (by decide) (XS.aloadN X88.here hx rfl (hb hby at_27) rfl rfl kz)) ?_
    obtain ⟨T89, X89, e89, st89⟩ := getS2 X88 hx hZ hown (host := "") (Or.inl (hw _ (List.mem_of_getElem? (i := 12) rfl))) Via.refl e88 P.2.2.2.2.2.2.1 (g := (mkF m 28 #[.val (.int p1), .val (.int (9 : Int32)), .val (.ref (w 17)), .unset, .unset, .unset] [(.ref (w 17))])) rfl (hb hby at_28)
    refine Goes.by st89 ?_
    refine Goes.by (fun _ kz => Jvm.RoadKit.acmp (g := (mkF m 31 #[.val (.int p1), .val (.int (9 : Int32)), .val (.ref (w 17)), .unset, .unset, .unset] [(.ref (w 3)), (.ref (w 17))])) X89 hx rfl rfl rfl (pc0 := 31) (pc' := 34) (same := false) rfl (hb hby at_31) rfl (decide_eq_false fun q => (Ne.symm (own_ne_3_17 P)) (Value.ref.inj q)) (by decide) (by decide) (XS.aloadN X89.here hx rfl (hb hby at_34) rfl rfl kz)) ?_
    obtain ⟨T90, X90, e90, st90⟩ := getS2 X89 hx hZ hown (host := "") (Or.inl (hw _ (List.mem_of_getElem? (i := 14) rfl))) Via.refl e89 P.2.2.2.2.2.2.2.2.1 (g := (mkF m 35 #[.val (.int p1), .val (.int (9 : Int32)), .val (.ref (w 17)), .unset, .unset, .unset] [(.ref (w 17))])) rfl (hb hby at_35)
    refine Goes.by st90 ?_
    refine Goes.by (fun _ kz => Jvm.RoadKit.acmp (g := (mkF m 38 #[.val (.int p1), .val (.int (9 : Int32)), .val (.ref (w 17)), .unset, .unset, .unset] [(.ref (w 4)), (.ref (w 17))])) X90 hx rfl rfl rfl (pc0 := 38) (pc' := 45) (same := false) rfl (hb hby at_38) rfl (decide_eq_false fun q => (Ne.symm (own_ne_4_17 P)) (Value.ref.inj q)) (by decide) (by decide) (XS.iconst X90.here hx rfl (hb hby at_45) (XS.istoreN X90.here hx rfl (hb hby at_46) rfl (l' := #[.val (.int p1), .val (.int (9 : Int32)), .val (.ref (w 17)), .val (.int (0 : Int32)), .unset, .unset]) rfl kz))) ?_
    show Goes p e below (T90.setTop (mkF m 47 #[.val (.int p1), .val (.int (9 : Int32)), .val (.ref (w 17)), .val (.int (0 : Int32)), .unset, .unset] [])) _
    refine Goes.by (fun _ kz => XS.aloadN X90.here hx rfl (hb hby at_47) rfl rfl kz) ?_
    obtain ⟨cq92, kq92, q92a, q92b, q92c⟩ := isOf hZ e90 P.2.2.2.2.2.2.2.2.2.2.2.2.2.2.2.2.2.2.2.2.2.2.2.2.2.2.2.2.2.2.2.2.2.2.2.1
    obtain ⟨_, _, ⟨T92, L92, k92, n92⟩, -, X92, ⟨Lc92, hQ92, l92, y92, z92⟩, st92⟩ := X90.virtualBack hx (y := (⟨"com/example/strict_credit/strictcredit/diameter/ResultCode", "code", "()I"⟩ : MethodName)) (z := (⟨"com/example/strict_credit/strictcredit/diameter/ResultCode", "code", "()I"⟩ : MethodName)) hown (mvT hZ (hw _ (List.mem_of_getElem? (i := 16) rfl))) (mvT hZ (hw _ (List.mem_of_getElem? (i := 17) rfl))) (notFace_of_selects (args := #[]) (mvT hZ (hw _ (List.mem_of_getElem? (i := 19) rfl)))) (mvT hZ (hw _ (List.mem_of_getElem? (i := 19) rfl))) (mvT hZ (hw _ (List.mem_of_getElem? (i := 18) rfl))) (by decide) (backOf (W := 0) (r2_28 l Z a0 hw [] h0 n0 Z0 w P) hZ (hw _ (List.mem_of_getElem? (i := 20) rfl)) (hw _ (List.mem_of_getElem? (i := 6) rfl)) (by decide) (by decide)) q92a q92c (g := (mkF m 48 #[.val (.int p1), .val (.int (9 : Int32)), .val (.ref (w 17)), .val (.int (0 : Int32)), .unset, .unset] [(.ref (w 17))])) rfl (by rw [hml]; rfl) (Steps.refl _) (argsL := []) (rest := []) (lenOf pd1 rfl) rfl (by show 2 * 0 + _ ≤ _; exact Nat.le_of_eq rfl) (hb hby at_48) (fun _ _ => ⟨rfl, e90, (by decide : 0 + 0 ≤ _), (by decide : 0 + 0 ≤ _)⟩)
    dsimp only [Pt.U, Pt.locs, Pt.cells, Pt.slots] at X92 l92 y92 z92 st92 hQ92
    subst l92 y92 z92
    obtain ⟨rfl, Nq92, e92⟩ := hQ92
    have N92 := Fr.app N86 Nq92
    refine Goes.tr st92 ?_
    refine Goes.by (fun _ kz => XS.istore X92.here hx rfl (hb hby at_51) rfl (l' := #[.val (.int p1), .val (.int (9 : Int32)), .val (.ref (w 17)), .val (.int (0 : Int32)), .val (.int (5002 : Int32)), .unset]) rfl (XS.iload X92.here hx rfl (hb hby at_53) rfl (XS.sipush X92.here hx rfl (hb hby at_55) kz))) ?_
    show Goes p e below (T92.setTop (mkF m 58 #[.val (.int p1), .val (.int (9 : Int32)), .val (.ref (w 17)), .val (.int (0 : Int32)), .val (.int (5002 : Int32)), .unset] [(.int (3000 : Int32)), (.int (5002 : Int32))])) _
    refine Goes.by (fun _ kz => XS.icmpNo X92.here hx rfl (hb hby at_58) rfl (flt (by decide : ¬ ((5002 : Int32) < (3000 : Int32)))).1 (XS.iload X92.here hx rfl (hb hby at_61) rfl (XS.sipush X92.here hx rfl (hb hby at_63) kz))) ?_
    show Goes p e below (T92.setTop (mkF m 66 #[.val (.int p1), .val (.int (9 : Int32)), .val (.ref (w 17)), .val (.int (0 : Int32)), .val (.int (5002 : Int32)), .unset] [(.int (3999 : Int32)), (.int (5002 : Int32))])) _
    refine Goes.by (fun _ kz => XS.icmpYes X92.here hx rfl (pc0 := 66) (pc' := 73) rfl (hb hby at_66) rfl (tlt (by decide : (3999 : Int32) < (5002 : Int32))).2.2.1 (by decide) (by decide) (XS.iconst X92.here hx rfl (hb hby at_73) (XS.istore X92.here hx rfl (hb hby at_74) rfl (l' := #[.val (.int p1), .val (.int (9 : Int32)), .val (.ref (w 17)), .val (.int (0 : Int32)), .val (.int (5002 : Int32)), .val (.int (0 : Int32))]) rfl kz))) ?_
    show Goes p e below (T92.setTop (mkF m 76 #[.val (.int p1), .val (.int (9 : Int32)), .val (.ref (w 17)), .val (.int (0 : Int32)), .val (.int (5002 : Int32)), .val (.int (0 : Int32))] [])) _
    refine Goes.by (fun _ kz => XS.aloadN X92.here hx rfl (hb hby at_76) rfl rfl kz) ?_
    obtain ⟨cq94, kq94, q94a, q94b, q94c⟩ := isOf hZ e92 P.2.2.2.2.2.2.2.2.2.2.2.2.2.2.2.2.2.2.2.2.2.2.2.2.2.2.2.2.2.2.2.2.2.2.2.1
    obtain ⟨_, _, ⟨T94, L94, k94, n94⟩, -, X94, ⟨Lc94, hQ94, l94, y94, z94⟩, st94⟩ := X92.virtualBack hx (y := (⟨"com/example/strict_credit/strictcredit/diameter/ResultCode", "isProtocolError", "()Z"⟩ : MethodName)) (z := (⟨"com/example/strict_credit/strictcredit/diameter/ResultCode", "isProtocolError", "()Z"⟩ : MethodName)) hown (mvT hZ (hw _ (List.mem_of_getElem? (i := 23) rfl))) (mvT hZ (hw _ (List.mem_of_getElem? (i := 24) rfl))) (notFace_of_selects (args := #[]) (mvT hZ (hw _ (List.mem_of_getElem? (i := 26) rfl)))) (mvT hZ (hw _ (List.mem_of_getElem? (i := 26) rfl))) (mvT hZ (hw _ (List.mem_of_getElem? (i := 25) rfl))) (by decide) (backOf (W := 0) (r3_29 l Z a0 hw [] h0 n0 Z0 w P) hZ (hw _ (List.mem_of_getElem? (i := 27) rfl)) (hw _ (List.mem_of_getElem? (i := 6) rfl)) (by decide) (by decide)) q94a q94c (g := (mkF m 77 #[.val (.int p1), .val (.int (9 : Int32)), .val (.ref (w 17)), .val (.int (0 : Int32)), .val (.int (5002 : Int32)), .val (.int (0 : Int32))] [(.ref (w 17))])) rfl (by rw [hml]; rfl) (Steps.refl _) (argsL := []) (rest := []) (lenOf pd2 rfl) rfl (by show 2 * 0 + _ ≤ _; exact Nat.le_of_eq rfl) (hb hby at_77) (fun _ _ => ⟨rfl, e92, (by decide : 0 + 0 ≤ _), (by decide : 0 + 0 ≤ _)⟩)
    dsimp only [Pt.U, Pt.locs, Pt.cells, Pt.slots] at X94 l94 y94 z94 st94 hQ94
    subst l94 y94 z94
    obtain ⟨rfl, Nq94, e94⟩ := hQ94
    have N94 := Fr.app N92 Nq94
    refine Goes.tr st94 ?_
    refine Goes.by (fun _ kz => XS.iloadN X94.here hx rfl (hb hby at_80) rfl (XS.icmpNo X94.here hx rfl (hb hby at_81) rfl (teq (by decide : (0 : Int32) = (0 : Int32))).2 (XS.iloadN X94.here hx rfl (hb hby at_84) rfl kz))) ?_
    show Goes p e below (T94.setTop (mkF m 85 #[.val (.int p1), .val (.int (9 : Int32)), .val (.ref (w 17)), .val (.int (0 : Int32)), .val (.int (5002 : Int32)), .val (.int (0 : Int32))] [(.int (0 : Int32))])) _
    refine Goes.by (fun _ kz => XS.iload X94.here hx rfl (hb hby at_85) rfl (XS.icmpNo X94.here hx rfl (hb hby at_87) rfl (teq (by decide : (0 : Int32) = (0 : Int32))).2 (XS.iconst X94.here hx rfl (hb hby at_90) kz))) ?_
    show Goes p e below (T94.setTop (mkF m 91 #[.val (.int p1), .val (.int (9 : Int32)), .val (.ref (w 17)), .val (.int (0 : Int32)), .val (.int (5002 : Int32)), .val (.int (0 : Int32))] [(.int (1 : Int32))])) _
    refine Goes.by (fun _ kz => XS.goto X94.here hx rfl (pc0 := 91) (pc' := 95) rfl (hb hby at_91) (by decide) (by decide) kz) ?_
    show Goes p e below (T94.setTop (mkF m 95 #[.val (.int p1), .val (.int (9 : Int32)), .val (.ref (w 17)), .val (.int (0 : Int32)), .val (.int (5002 : Int32)), .val (.int (0 : Int32))] [(.int (1 : Int32))])) _
    obtain ⟨fs, hr, hrun, hended, hW, hsame⟩ := X94.leave (v := some (.int (1 : Int32))) (fun h => by rw [Bd.returns] at h; cases h)
    exact ⟨_, _, retN X94 hx (t := .boolean) Bd.returns (by simp) (hb hby at_95) hr, hrun, hended, _, _, rfl, ⟨rfl, N94⟩, ⟨_, rfl⟩, hW, hsame.mono (by decide) (by decide)⟩
  · show Goes p e below (s₁.setTop (mkF m 8 #[.val (.int p1), .val (.int (10 : Int32)), .unset, .unset, .unset, .unset] [])) _
    refine Goes.by (fun _ kz => XS.iloadN X0.here hx rfl (hb hby at_8) rfl kz) ?_
    obtain ⟨_, _, ⟨T96, L96, k96, n96⟩, -, X96, ⟨Lc96, hQ96, l96, y96, z96⟩, st96⟩ := Jvm.LawKit.callS X0 hx (y := (⟨"com/example/strict_credit/strictcredit/diameter/ResultCodeIsProtocolErrorPinLaw", "pick", "(I)Lcom/example/strict_credit/strictcredit/diameter/ResultCode;"⟩ : MethodName)) hown (mvT hZ (hw _ (List.mem_of_getElem? (i := 1) rfl))) (mvT hZ (hw _ (List.mem_of_getElem? (i := 2) rfl))) (mvT hZ (hw _ (List.mem_of_getElem? (i := 3) rfl))) (mvT hZ (hw _ (List.mem_of_getElem? (i := 4) rfl))) (by decide) (backOf (W := 0) (r1_30 l Z a0 hw [] h0 n0 Z0 w P) hZ (hw _ (List.mem_of_getElem? (i := 4) rfl)) (hw _ (List.mem_of_getElem? (i := 3) rfl)) (by decide) (by decide)) (g := (mkF m 9 #[.val (.int p1), .val (.int (10 : Int32)), .unset, .unset, .unset, .unset] [(.int (10 : Int32))])) rfl (by rw [hml]; rfl) (argsL := [(.int (10 : Int32))]) (rest := []) (lenOf pd0 rfl) rfl (by show 2 * 0 + _ ≤ _; exact Nat.le_of_eq rfl) (hb hby at_9) (fun _ _ => ⟨rfl, e0, (by decide : 0 + 0 ≤ _), (by decide : 0 + 0 ≤ _)⟩)
    dsimp only [Pt.U, Pt.locs, Pt.cells, Pt.slots] at X96 l96 y96 z96 st96 hQ96
    subst l96 y96 z96
    obtain ⟨rfl, Nq96, e96⟩ := hQ96
    have N96 := Fr.app N0 Nq96
    refine Goes.by st96 ?_
    refine Goes.by (fun _ kz => XS.astoreN X96.here hx rfl (hb hby at_12) rfl rfl (l' := #[.val (.int p1), .val (.int (10 : Int32)), .val (.ref (w 5)), .unset, .unset, .unset]) rfl (XS.aloadN X96.here hx rfl (hb hby at_13) rfl rfl kz)) ?_
    obtain ⟨T97, X97, e97, st97⟩ := getS2 X96 hx hZ hown (host := "") (Or.inl (hw _ (List.mem_of_getElem? (i := 8) rfl))) Via.refl e96 P.2.2.1 (g := (mkF m 14 #[.val (.int p1), .val (.int (10 : Int32)), .val (.ref (w 5)), .unset, .unset, .unset] [(.ref (w 5))])) rfl (hb hby at_14)
    refine Goes.by st97 ?_
    refine Goes.by (fun _ kz => Jvm.RoadKit.acmp (g := (mkF m 17 #[.val (.int p1), .val (.int (10 : Int32)), .val (.ref (w 5)), .unset, .unset, .unset] [(.ref (w 1)), (.ref (w 5))])) X97 hx rfl rfl rfl (pc0 := 17) (pc' := 20) (same := false) rfl (hb hby at_17) rfl (decide_eq_false fun q => (Ne.symm (own_ne_1_5 P)) (Value.ref.inj q)) (by decide) (by decide) (XS.aloadN X97.here hx rfl (hb hby at_20) rfl rfl kz)) ?_
    obtain ⟨T98, X98, e98, st98⟩ := getS2 X97 hx hZ hown (host := "") (Or.inl (hw _ (List.mem_of_getElem? (i := 10) rfl))) Via.refl e97 P.2.2.2.2.1 (g := (mkF m 21 #[.val (.int p1), .val (.int (10 : Int32)), .val (.ref (w 5)), .unset, .unset, .unset] [(.ref (w 5))])) rfl (hb hby at_21)
    refine Goes.by st98 ?_
    refine Goes.by (fun _ kz => Jvm.RoadKit.acmp (g := (mkF m 24 #[.val (.int p1), .val (.int (10 : Int32)), .val (.ref (w 5)), .unset, .unset, .unset] [(.ref (w 2)), (.ref (w 5))])) X98 hx rfl rfl rfl (pc0 := 24) (pc' := 27) (same := false) rfl (hb hby at_24) rfl (decide_eq_false fun q => (Ne.symm (own_ne_2_5 P)) (Value.ref.inj q)) (by decide) (by decide) (XS.aloadN X98.here hx rfl (hb hby at_27) rfl rfl kz)) ?_
    obtain ⟨T99, X99, e99, st99⟩ := getS2 X98 hx hZ hown (host := "") (Or.inl (hw _ (List.mem_of_getElem? (i := 12) rfl))) Via.refl e98 P.2.2.2.2.2.2.1 (g := (mkF m 28 #[.val (.int p1), .val (.int (10 : Int32)), .val (.ref (w 5)), .unset, .unset, .unset] [(.ref (w 5))])) rfl (hb hby at_28)
    refine Goes.by st99 ?_
    refine Goes.by (fun _ kz => Jvm.RoadKit.acmp (g := (mkF m 31 #[.val (.int p1), .val (.int (10 : Int32)), .val (.ref (w 5)), .unset, .unset, .unset] [(.ref (w 3)), (.ref (w 5))])) X99 hx rfl rfl rfl (pc0 := 31) (pc' := 34) (same := false) rfl (hb hby at_31) rfl (decide_eq_false fun q => (Ne.symm (own_ne_3_5 P)) (Value.ref.inj q)) (by decide) (by decide) (XS.aloadN X99.here hx rfl (hb hby at_34) rfl rfl kz)) ?_
    obtain ⟨T100, X100, e100, st100⟩ := getS2 X99 hx hZ hown (host := "") (Or.inl (hw _ (List.mem_of_getElem? (i := 14) rfl))) Via.refl e99 P.2.2.2.2.2.2.2.2.1 (g := (mkF m 35 #[.val (.int p1), .val (.int (10 : Int32)), .val (.ref (w 5)), .unset, .unset, .unset] [(.ref (w 5))])) rfl (hb hby at_35)
    refine Goes.by st100 ?_
    refine Goes.by (fun _ kz => Jvm.RoadKit.acmp (g := (mkF m 38 #[.val (.int p1), .val (.int (10 : Int32)), .val (.ref (w 5)), .unset, .unset, .unset] [(.ref (w 4)), (.ref (w 5))])) X100 hx rfl rfl rfl (pc0 := 38) (pc' := 45) (same := false) rfl (hb hby at_38) rfl (decide_eq_false fun q => (Ne.symm (own_ne_4_5 P)) (Value.ref.inj q)) (by decide) (by decide) (XS.iconst X100.here hx rfl (hb hby at_45) (XS.istoreN X100.here hx rfl (hb hby at_46) rfl (l' := #[.val (.int p1), .val (.int (10 : Int32)), .val (.ref (w 5)), .val (.int (0 : Int32)), .unset, .unset]) rfl kz))) ?_
    show Goes p e below (T100.setTop (mkF m 47 #[.val (.int p1), .val (.int (10 : Int32)), .val (.ref (w 5)), .val (.int (0 : Int32)), .unset, .unset] [])) _
    refine Goes.by (fun _ kz => XS.aloadN X100.here hx rfl (hb hby at_47) rfl rfl kz) ?_
    obtain ⟨cq102, kq102, q102a, q102b, q102c⟩ := isOf hZ e100 P.2.2.2.2.2.2.2.2.2.2.2.1
    obtain ⟨_, _, ⟨T102, L102, k102, n102⟩, -, X102, ⟨Lc102, hQ102, l102, y102, z102⟩, st102⟩ := X100.virtualBack hx (y := (⟨"com/example/strict_credit/strictcredit/diameter/ResultCode", "code", "()I"⟩ : MethodName)) (z := (⟨"com/example/strict_credit/strictcredit/diameter/ResultCode", "code", "()I"⟩ : MethodName)) hown (mvT hZ (hw _ (List.mem_of_getElem? (i := 16) rfl))) (mvT hZ (hw _ (List.mem_of_getElem? (i := 17) rfl))) (notFace_of_selects (args := #[]) (mvT hZ (hw _ (List.mem_of_getElem? (i := 19) rfl)))) (mvT hZ (hw _ (List.mem_of_getElem? (i := 19) rfl))) (mvT hZ (hw _ (List.mem_of_getElem? (i := 18) rfl))) (by decide) (backOf (W := 0) (r2_31 l Z a0 hw [] h0 n0 Z0 w P) hZ (hw _ (List.mem_of_getElem? (i := 20) rfl)) (hw _ (List.mem_of_getElem? (i := 6) rfl)) (by decide) (by decide)) q102a q102c (g := (mkF m 48 #[.val (.int p1), .val (.int (10 : Int32)), .val (.ref (w 5)), .val (.int (0 : Int32)), .unset, .unset] [(.ref (w 5))])) rfl (by rw [hml]; rfl) (Steps.refl _) (argsL := []) (rest := []) (lenOf pd1 rfl) rfl (by show 2 * 0 + _ ≤ _; exact Nat.le_of_eq rfl) (hb hby at_48) (fun _ _ => ⟨rfl, e100, (by decide : 0 + 0 ≤ _), (by decide : 0 + 0 ≤ _)⟩)
    dsimp only [Pt.U, Pt.locs, Pt.cells, Pt.slots] at X102 l102 y102 z102 st102 hQ102
    subst l102 y102 z102
    obtain ⟨rfl, Nq102, e102⟩ := hQ102
    have N102 := Fr.app N96 Nq102
    refine Goes.tr st102 ?_
    refine Goes.by (fun _ kz => XS.istore X102.here hx rfl (hb hby at_51) rfl (l' := #[.val (.int p1), .val (.int (10 : Int32)), .val (.ref (w 5)), .val (.int (0 : Int32)), .val (.int (5004 : Int32)), .unset]) rfl (XS.iload X102.here hx rfl (hb hby at_53) rfl (XS.sipush X102.here hx rfl (hb hby at_55) kz))) ?_
    show Goes p e below (T102.setTop (mkF m 58 #[.val (.int p1), .val (.int (10 : Int32)), .val (.ref (w 5)), .val (.int (0 : Int32)), .val (.int (5004 : Int32)), .unset] [(.int (3000 : Int32)), (.int (5004 : Int32))])) _
    refine Goes.by (fun _ kz => XS.icmpNo X102.here hx rfl (hb hby at_58) rfl (flt (by decide : ¬ ((5004 : Int32) < (3000 : Int32)))).1 (XS.iload X102.here hx rfl (hb hby at_61) rfl (XS.sipush X102.here hx rfl (hb hby at_63) kz))) ?_
    show Goes p e below (T102.setTop (mkF m 66 #[.val (.int p1), .val (.int (10 : Int32)), .val (.ref (w 5)), .val (.int (0 : Int32)), .val (.int (5004 : Int32)), .unset] [(.int (3999 : Int32)), (.int (5004 : Int32))])) _
    refine Goes.by (fun _ kz => XS.icmpYes X102.here hx rfl (pc0 := 66) (pc' := 73) rfl (hb hby at_66) rfl (tlt (by decide : (3999 : Int32) < (5004 : Int32))).2.2.1 (by decide) (by decide) (XS.iconst X102.here hx rfl (hb hby at_73) (XS.istore X102.here hx rfl (hb hby at_74) rfl (l' := #[.val (.int p1), .val (.int (10 : Int32)), .val (.ref (w 5)), .val (.int (0 : Int32)), .val (.int (5004 : Int32)), .val (.int (0 : Int32))]) rfl kz))) ?_
    show Goes p e below (T102.setTop (mkF m 76 #[.val (.int p1), .val (.int (10 : Int32)), .val (.ref (w 5)), .val (.int (0 : Int32)), .val (.int (5004 : Int32)), .val (.int (0 : Int32))] [])) _
    refine Goes.by (fun _ kz => XS.aloadN X102.here hx rfl (hb hby at_76) rfl rfl kz) ?_
    obtain ⟨cq104, kq104, q104a, q104b, q104c⟩ := isOf hZ e102 P.2.2.2.2.2.2.2.2.2.2.2.1
    obtain ⟨_, _, ⟨T104, L104, k104, n104⟩, -, X104, ⟨Lc104, hQ104, l104, y104, z104⟩, st104⟩ := X102.virtualBack hx (y := (⟨"com/example/strict_credit/strictcredit/diameter/ResultCode", "isProtocolError", "()Z"⟩ : MethodName)) (z := (⟨"com/example/strict_credit/strictcredit/diameter/ResultCode", "isProtocolError", "()Z"⟩ : MethodName)) hown (mvT hZ (hw _ (List.mem_of_getElem? (i := 23) rfl))) (mvT hZ (hw _ (List.mem_of_getElem? (i := 24) rfl))) (notFace_of_selects (args := #[]) (mvT hZ (hw _ (List.mem_of_getElem? (i := 26) rfl)))) (mvT hZ (hw _ (List.mem_of_getElem? (i := 26) rfl))) (mvT hZ (hw _ (List.mem_of_getElem? (i := 25) rfl))) (by decide) (backOf (W := 0) (r3_32 l Z a0 hw [] h0 n0 Z0 w P) hZ (hw _ (List.mem_of_getElem? (i := 27) rfl)) (hw _ (List.mem_of_getElem? (i := 6) rfl)) (by decide) (by decide)) q104a q104c (g := (mkF m 77 #[.val (.int p1), .val (.int (10 : Int32)), .val (.ref (w 5)), .val (.int (0 : Int32)), .val (.int (5004 : Int32)), .val (.int (0 : Int32))] [(.ref (w 5))])) rfl (by rw [hml]; rfl) (Steps.refl _) (argsL := []) (rest := []) (lenOf pd2 rfl) rfl (by show 2 * 0 + _ ≤ _; exact Nat.le_of_eq rfl) (hb hby at_77) (fun _ _ => ⟨rfl, e102, (by decide : 0 + 0 ≤ _), (by decide : 0 + 0 ≤ _)⟩)
    dsimp only [Pt.U, Pt.locs, Pt.cells, Pt.slots] at X104 l104 y104 z104 st104 hQ104
    subst l104 y104 z104
    obtain ⟨rfl, Nq104, e104⟩ := hQ104
    have N104 := Fr.app N102 Nq104
    refine Goes.tr st104 ?_
    refine Goes.by (fun _ kz => XS.iloadN X104.here hx rfl (hb hby at_80) rfl (XS.icmpNo X104.here hx rfl (hb hby at_81) rfl (teq (by decide : (0 : Int32) = (0 : Int32))).2 (XS.iloadN X104.here hx rfl (hb hby at_84) rfl kz))) ?_
    show Goes p e below (T104.setTop (mkF m 85 #[.val (.int p1), .val (.int (10 : Int32)), .val (.ref (w 5)), .val (.int (0 : Int32)), .val (.int (5004 : Int32)), .val (.int (0 : Int32))] [(.int (0 : Int32))])) _
    refine Goes.by (fun _ kz => XS.iload X104.here hx rfl (hb hby at_85) rfl (XS.icmpNo X104.here hx rfl (hb hby at_87) rfl (teq (by decide : (0 : Int32) = (0 : Int32))).2 (XS.iconst X104.here hx rfl (hb hby at_90) kz))) ?_
    show Goes p e below (T104.setTop (mkF m 91 #[.val (.int p1), .val (.int (10 : Int32)), .val (.ref (w 5)), .val (.int (0 : Int32)), .val (.int (5004 : Int32)), .val (.int (0 : Int32))] [(.int (1 : Int32))])) _
    refine Goes.by (fun _ kz => XS.goto X104.here hx rfl (pc0 := 91) (pc' := 95) rfl (hb hby at_91) (by decide) (by decide) kz) ?_
    show Goes p e below (T104.setTop (mkF m 95 #[.val (.int p1), .val (.int (10 : Int32)), .val (.ref (w 5)), .val (.int (0 : Int32)), .val (.int (5004 : Int32)), .val (.int (0 : Int32))] [(.int (1 : Int32))])) _
    obtain ⟨fs, hr, hrun, hended, hW, hsame⟩ := X104.leave (v := some (.int (1 : Int32))) (fun h => by rw [Bd.returns] at h; cases h)
    exact ⟨_, _, retN X104 hx (t := .boolean) Bd.returns (by simp) (hb hby at_95) hr, hrun, hended, _, _, rfl, ⟨rfl, N104⟩, ⟨_, rfl⟩, hW, hsame.mono (by decide) (by decide)⟩
  · show Goes p e below (s₁.setTop (mkF m 8 #[.val (.int p1), .val (.int (11 : Int32)), .unset, .unset, .unset, .unset] [])) _
    refine Goes.by (fun _ kz => XS.iloadN X0.here hx rfl (hb hby at_8) rfl kz) ?_
    obtain ⟨_, _, ⟨T106, L106, k106, n106⟩, -, X106, ⟨Lc106, hQ106, l106, y106, z106⟩, st106⟩ := Jvm.LawKit.callS X0 hx (y := (⟨"com/example/strict_credit/strictcredit/diameter/ResultCodeIsProtocolErrorPinLaw", "pick", "(I)Lcom/example/strict_credit/strictcredit/diameter/ResultCode;"⟩ : MethodName)) hown (mvT hZ (hw _ (List.mem_of_getElem? (i := 1) rfl))) (mvT hZ (hw _ (List.mem_of_getElem? (i := 2) rfl))) (mvT hZ (hw _ (List.mem_of_getElem? (i := 3) rfl))) (mvT hZ (hw _ (List.mem_of_getElem? (i := 4) rfl))) (by decide) (backOf (W := 0) (r1_33 l Z a0 hw [] h0 n0 Z0 w P) hZ (hw _ (List.mem_of_getElem? (i := 4) rfl)) (hw _ (List.mem_of_getElem? (i := 3) rfl)) (by decide) (by decide)) (g := (mkF m 9 #[.val (.int p1), .val (.int (11 : Int32)), .unset, .unset, .unset, .unset] [(.int (11 : Int32))])) rfl (by rw [hml]; rfl) (argsL := [(.int (11 : Int32))]) (rest := []) (lenOf pd0 rfl) rfl (by show 2 * 0 + _ ≤ _; exact Nat.le_of_eq rfl) (hb hby at_9) (fun _ _ => ⟨rfl, e0, (by decide : 0 + 0 ≤ _), (by decide : 0 + 0 ≤ _)⟩)
    dsimp only [Pt.U, Pt.locs, Pt.cells, Pt.slots] at X106 l106 y106 z106 st106 hQ106
    subst l106 y106 z106
    obtain ⟨rfl, Nq106, e106⟩ := hQ106
    have N106 := Fr.app N0 Nq106
    refine Goes.by st106 ?_
    refine Goes.by (fun _ kz => XS.astoreN X106.here hx rfl (hb hby at_12) rfl rfl (l' := #[.val (.int p1), .val (.int (11 : Int32)), .val (.ref (w 6)), .unset, .unset, .unset]) rfl (XS.aloadN X106.here hx rfl (hb hby at_13) rfl rfl kz)) ?_
    obtain ⟨T107, X107, e107, st107⟩ := getS2 X106 hx hZ hown (host := "") (Or.inl (hw _ (List.mem_of_getElem? (i := 8) rfl))) Via.refl e106 P.2.2.1 (g := (mkF m 14 #[.val (.int p1), .val (.int (11 : Int32)), .val (.ref (w 6)), .unset, .unset, .unset] [(.ref (w 6))])) rfl (hb hby at_14)
    refine Goes.by st107 ?_
    refine Goes.by (fun _ kz => Jvm.RoadKit.acmp (g := (mkF m 17 #[.val (.int p1), .val (.int (11 : Int32)), .val (.ref (w 6)), .unset, .unset, .unset] [(.ref (w 1)), (.ref (w 6))])) X107 hx rfl rfl rfl (pc0 := 17) (pc' := 20) (same := false) rfl (hb hby at_17) rfl (decide_eq_false fun q => (Ne.symm (own_ne_1_6 P)) (Value.ref.inj q)) (by decide) (by decide) (XS.aloadN X107.here hx rfl (hb hby at_20) rfl rfl kz)) ?_
    obtain ⟨T108, X108, e108, st108⟩ := getS2 X107 hx hZ hown (host := "") (Or.inl (hw _ (List.mem_of_getElem? (i := 10) rfl))) Via.refl e107 P.2.2.2.2.1 (g := (mkF m 21 #[.val (.int p1), .val (.int (11 : Int32)), .val (.ref (w 6)), .unset, .unset, .unset] [(.ref (w 6))])) rfl (hb hby at_21)
    refine Goes.by st108 ?_
    refine Goes.by (fun _ kz => Jvm.RoadKit.acmp (g := (mkF m 24 #[.val (.int p1), .val (.int (11 : Int32)), .val (.ref (w 6)), .unset, .unset, .unset] [(.ref (w 2)), (.ref (w 6))])) X108 hx rfl rfl rfl (pc0 := 24) (pc' := 27) (same := false) rfl (hb hby at_24) rfl (decide_eq_false fun q => (Ne.symm (own_ne_2_6 P)) (Value.ref.inj q)) (by decide) (by decide) (XS.aloadN X108.here hx rfl (hb hby at_27) rfl rfl kz)) ?_
    obtain ⟨T109, X109, e109, st109⟩ := getS2 X108 hx hZ hown (host := "") (Or.inl (hw _ (List.mem_of_getElem? (i := 12) rfl))) Via.refl e108 P.2.2.2.2.2.2.1 (g := (mkF m 28 #[.val (.int p1), .val (.int (11 : Int32)), .val (.ref (w 6)), .unset, .unset, .unset] [(.ref (w 6))])) rfl (hb hby at_28)
    refine Goes.by st109 ?_
    refine Goes.by (fun _ kz => Jvm.RoadKit.acmp (g := (mkF m 31 #[.val (.int p1), .val (.int (11 : Int32)), .val (.ref (w 6)), .unset, .unset, .unset] [(.ref (w 3)), (.ref (w 6))])) X109 hx rfl rfl rfl (pc0 := 31) (pc' := 34) (same := false) rfl (hb hby at_31) rfl (decide_eq_false fun q => (Ne.symm (own_ne_3_6 P)) (Value.ref.inj q)) (by decide) (by decide) (XS.aloadN X109.here hx rfl (hb hby at_34) rfl rfl kz)) ?_
    obtain ⟨T110, X110, e110, st110⟩ := getS2 X109 hx hZ hown (host := "") (Or.inl (hw _ (List.mem_of_getElem? (i := 14) rfl))) Via.refl e109 P.2.2.2.2.2.2.2.2.1 (g := (mkF m 35 #[.val (.int p1), .val (.int (11 : Int32)), .val (.ref (w 6)), .unset, .unset, .unset] [(.ref (w 6))])) rfl (hb hby at_35)
    refine Goes.by st110 ?_
    refine Goes.by (fun _ kz => Jvm.RoadKit.acmp (g := (mkF m 38 #[.val (.int p1), .val (.int (11 : Int32)), .val (.ref (w 6)), .unset, .unset, .unset] [(.ref (w 4)), (.ref (w 6))])) X110 hx rfl rfl rfl (pc0 := 38) (pc' := 45) (same := false) rfl (hb hby at_38) rfl (decide_eq_false fun q => (Ne.symm (own_ne_4_6 P)) (Value.ref.inj q)) (by decide) (by decide) (XS.iconst X110.here hx rfl (hb hby at_45) (XS.istoreN X110.here hx rfl (hb hby at_46) rfl (l' := #[.val (.int p1), .val (.int (11 : Int32)), .val (.ref (w 6)), .val (.int (0 : Int32)), .unset, .unset]) rfl kz))) ?_
    show Goes p e below (T110.setTop (mkF m 47 #[.val (.int p1), .val (.int (11 : Int32)), .val (.ref (w 6)), .val (.int (0 : Int32)), .unset, .unset] [])) _
    refine Goes.by (fun _ kz => XS.aloadN X110.here hx rfl (hb hby at_47) rfl rfl kz) ?_
    obtain ⟨cq112, kq112, q112a, q112b, q112c⟩ := isOf hZ e110 P.2.2.2.2.2.2.2.2.2.2.2.2.2.1
    obtain ⟨_, _, ⟨T112, L112, k112, n112⟩, -, X112, ⟨Lc112, hQ112, l112, y112, z112⟩, st112⟩ := X110.virtualBack hx (y := (⟨"com/example/strict_credit/strictcredit/diameter/ResultCode", "code", "()I"⟩ : MethodName)) (z := (⟨"com/example/strict_credit/strictcredit/diameter/ResultCode", "code", "()I"⟩ : MethodName)) hown (mvT hZ (hw _ (List.mem_of_getElem? (i := 16) rfl))) (mvT hZ (hw _ (List.mem_of_getElem? (i := 17) rfl))) (notFace_of_selects (args := #[]) (mvT hZ (hw _ (List.mem_of_getElem? (i := 19) rfl)))) (mvT hZ (hw _ (List.mem_of_getElem? (i := 19) rfl))) (mvT hZ (hw _ (List.mem_of_getElem? (i := 18) rfl))) (by decide) (backOf (W := 0) (r2_34 l Z a0 hw [] h0 n0 Z0 w P) hZ (hw _ (List.mem_of_getElem? (i := 20) rfl)) (hw _ (List.mem_of_getElem? (i := 6) rfl)) (by decide) (by decide)) q112a q112c (g := (mkF m 48 #[.val (.int p1), .val (.int (11 : Int32)), .val (.ref (w 6)), .val (.int (0 : Int32)), .unset, .unset] [(.ref (w 6))])) rfl (by rw [hml]; rfl) (Steps.refl _) (argsL := []) (rest := []) (lenOf pd1 rfl) rfl (by show 2 * 0 + _ ≤ _; exact Nat.le_of_eq rfl) (hb hby at_48) (fun _ _ => ⟨rfl, e110, (by decide : 0 + 0 ≤ _), (by decide : 0 + 0 ≤ _)⟩)
    dsimp only [Pt.U, Pt.locs, Pt.cells, Pt.slots] at X112 l112 y112 z112 st112 hQ112
    subst l112 y112 z112
    obtain ⟨rfl, Nq112, e112⟩ := hQ112
    have N112 := Fr.app N106 Nq112
    refine Goes.tr st112 ?_
    refine Goes.by (fun _ kz => XS.istore X112.here hx rfl (hb hby at_51) rfl (l' := #[.val (.int p1), .val (.int (11 : Int32)), .val (.ref (w 6)), .val (.int (0 : Int32)), .val (.int (5005 : Int32)), .unset]) rfl (XS.iload X112.here hx rfl (hb hby at_53) rfl (XS.sipush X112.here hx rfl (hb hby at_55) kz))) ?_
    show Goes p e below (T112.setTop (mkF m 58 #[.val (.int p1), .val (.int (11 : Int32)), .val (.ref (w 6)), .val (.int (0 : Int32)), .val (.int (5005 : Int32)), .unset] [(.int (3000 : Int32)), (.int (5005 : Int32))])) _
    refine Goes.by (fun _ kz => XS.icmpNo X112.here hx rfl (hb hby at_58) rfl (flt (by decide : ¬ ((5005 : Int32) < (3000 : Int32)))).1 (XS.iload X112.here hx rfl (hb hby at_61) rfl (XS.sipush X112.here hx rfl (hb hby at_63) kz))) ?_
    show Goes p e below (T112.setTop (mkF m 66 #[.val (.int p1), .val (.int (11 : Int32)), .val (.ref (w 6)), .val (.int (0 : Int32)), .val (.int (5005 : Int32)), .unset] [(.int (3999 : Int32)), (.int (5005 : Int32))])) _
    refine Goes.by (fun _ kz => XS.icmpYes X112.here hx rfl (pc0 := 66) (pc' := 73) rfl (hb hby at_66) rfl (tlt (by decide : (3999 : Int32) < (5005 : Int32))).2.2.1 (by decide) (by decide) (XS.iconst X112.here hx rfl (hb hby at_73) (XS.istore X112.here hx rfl (hb hby at_74) rfl (l' := #[.val (.int p1), .val (.int (11 : Int32)), .val (.ref (w 6)), .val (.int (0 : Int32)), .val (.int (5005 : Int32)), .val (.int (0 : Int32))]) rfl kz))) ?_
    show Goes p e below (T112.setTop (mkF m 76 #[.val (.int p1), .val (.int (11 : Int32)), .val (.ref (w 6)), .val (.int (0 : Int32)), .val (.int (5005 : Int32)), .val (.int (0 : Int32))] [])) _
    refine Goes.by (fun _ kz => XS.aloadN X112.here hx rfl (hb hby at_76) rfl rfl kz) ?_
    obtain ⟨cq114, kq114, q114a, q114b, q114c⟩ := isOf hZ e112 P.2.2.2.2.2.2.2.2.2.2.2.2.2.1
    obtain ⟨_, _, ⟨T114, L114, k114, n114⟩, -, X114, ⟨Lc114, hQ114, l114, y114, z114⟩, st114⟩ := X112.virtualBack hx (y := (⟨"com/example/strict_credit/strictcredit/diameter/ResultCode", "isProtocolError", "()Z"⟩ : MethodName)) (z := (⟨"com/example/strict_credit/strictcredit/diameter/ResultCode", "isProtocolError", "()Z"⟩ : MethodName)) hown (mvT hZ (hw _ (List.mem_of_getElem? (i := 23) rfl))) (mvT hZ (hw _ (List.mem_of_getElem? (i := 24) rfl))) (notFace_of_selects (args := #[]) (mvT hZ (hw _ (List.mem_of_getElem? (i := 26) rfl)))) (mvT hZ (hw _ (List.mem_of_getElem? (i := 26) rfl))) (mvT hZ (hw _ (List.mem_of_getElem? (i := 25) rfl))) (by decide) (backOf (W := 0) (r3_35 l Z a0 hw [] h0 n0 Z0 w P) hZ (hw _ (List.mem_of_getElem? (i := 27) rfl)) (hw _ (List.mem_of_getElem? (i := 6) rfl)) (by decide) (by decide)) q114a q114c (g := (mkF m 77 #[.val (.int p1), .val (.int (11 : Int32)), .val (.ref (w 6)), .val (.int (0 : Int32)), .val (.int (5005 : Int32)), .val (.int (0 : Int32))] [(.ref (w 6))])) rfl (by rw [hml]; rfl) (Steps.refl _) (argsL := []) (rest := []) (lenOf pd2 rfl) rfl (by show 2 * 0 + _ ≤ _; exact Nat.le_of_eq rfl) (hb hby at_77) (fun _ _ => ⟨rfl, e112, (by decide : 0 + 0 ≤ _), (by decide : 0 + 0 ≤ _)⟩)
    dsimp only [Pt.U, Pt.locs, Pt.cells, Pt.slots] at X114 l114 y114 z114 st114 hQ114
    subst l114 y114 z114
    obtain ⟨rfl, Nq114, e114⟩ := hQ114
    have N114 := Fr.app N112 Nq114
    refine Goes.tr st114 ?_
    refine Goes.by (fun _ kz => XS.iloadN X114.here hx rfl (hb hby at_80) rfl (XS.icmpNo X114.here hx rfl (hb hby at_81) rfl (teq (by decide : (0 : Int32) = (0 : Int32))).2 (XS.iloadN X114.here hx rfl (hb hby at_84) rfl kz))) ?_
    show Goes p e below (T114.setTop (mkF m 85 #[.val (.int p1), .val (.int (11 : Int32)), .val (.ref (w 6)), .val (.int (0 : Int32)), .val (.int (5005 : Int32)), .val (.int (0 : Int32))] [(.int (0 : Int32))])) _
    refine Goes.by (fun _ kz => XS.iload X114.here hx rfl (hb hby at_85) rfl (XS.icmpNo X114.here hx rfl (hb hby at_87) rfl (teq (by decide : (0 : Int32) = (0 : Int32))).2 (XS.iconst X114.here hx rfl (hb hby at_90) kz))) ?_
    show Goes p e below (T114.setTop (mkF m 91 #[.val (.int p1), .val (.int (11 : Int32)), .val (.ref (w 6)), .val (.int (0 : Int32)), .val (.int (5005 : Int32)), .val (.int (0 : Int32))] [(.int (1 : Int32))])) _
    refine Goes.by (fun _ kz => XS.goto X114.here hx rfl (pc0 := 91) (pc' := 95) rfl (hb hby at_91) (by decide) (by decide) kz) ?_
    show Goes p e below (T114.setTop (mkF m 95 #[.val (.int p1), .val (.int (11 : Int32)), .val (.ref (w 6)), .val (.int (0 : Int32)), .val (.int (5005 : Int32)), .val (.int (0 : Int32))] [(.int (1 : Int32))])) _
    obtain ⟨fs, hr, hrun, hended, hW, hsame⟩ := X114.leave (v := some (.int (1 : Int32))) (fun h => by rw [Bd.returns] at h; cases h)
    exact ⟨_, _, retN X114 hx (t := .boolean) Bd.returns (by simp) (hb hby at_95) hr, hrun, hended, _, _, rfl, ⟨rfl, N114⟩, ⟨_, rfl⟩, hW, hsame.mono (by decide) (by decide)⟩
  · show Goes p e below (s₁.setTop (mkF m 8 #[.val (.int p1), .val (.int (12 : Int32)), .unset, .unset, .unset, .unset] [])) _
    refine Goes.by (fun _ kz => XS.iloadN X0.here hx rfl (hb hby at_8) rfl kz) ?_
    obtain ⟨_, _, ⟨T116, L116, k116, n116⟩, -, X116, ⟨Lc116, hQ116, l116, y116, z116⟩, st116⟩ := Jvm.LawKit.callS X0 hx (y := (⟨"com/example/strict_credit/strictcredit/diameter/ResultCodeIsProtocolErrorPinLaw", "pick", "(I)Lcom/example/strict_credit/strictcredit/diameter/ResultCode;"⟩ : MethodName)) hown (mvT hZ (hw _ (List.mem_of_getElem? (i := 1) rfl))) (mvT hZ (hw _ (List.mem_of_getElem? (i := 2) rfl))) (mvT hZ (hw _ (List.mem_of_getElem? (i := 3) rfl))) (mvT hZ (hw _ (List.mem_of_getElem? (i := 4) rfl))) (by decide) (backOf (W := 0) (r1_36 l Z a0 hw [] h0 n0 Z0 w P) hZ (hw _ (List.mem_of_getElem? (i := 4) rfl)) (hw _ (List.mem_of_getElem? (i := 3) rfl)) (by decide) (by decide)) (g := (mkF m 9 #[.val (.int p1), .val (.int (12 : Int32)), .unset, .unset, .unset, .unset] [(.int (12 : Int32))])) rfl (by rw [hml]; rfl) (argsL := [(.int (12 : Int32))]) (rest := []) (lenOf pd0 rfl) rfl (by show 2 * 0 + _ ≤ _; exact Nat.le_of_eq rfl) (hb hby at_9) (fun _ _ => ⟨rfl, e0, (by decide : 0 + 0 ≤ _), (by decide : 0 + 0 ≤ _)⟩)
    dsimp only [Pt.U, Pt.locs, Pt.cells, Pt.slots] at X116 l116 y116 z116 st116 hQ116
    subst l116 y116 z116
    obtain ⟨rfl, Nq116, e116⟩ := hQ116
    have N116 := Fr.app N0 Nq116
    refine Goes.by st116 ?_
    refine Goes.by (fun _ kz => XS.astoreN X116.here hx rfl (hb hby at_12) rfl rfl (l' := #[.val (.int p1), .val (.int (12 : Int32)), .val (.ref (w 16)), .unset, .unset, .unset]) rfl (XS.aloadN X116.here hx rfl (hb hby at_13) rfl rfl kz)) ?_
    obtain ⟨T117, X117, e117, st117⟩ := getS2 X116 hx hZ hown (host := "") (Or.inl (hw _ (List.mem_of_getElem? (i := 8) rfl))) Via.refl e116 P.2.2.1 (g := (mkF m 14 #[.val (.int p1), .val (.int (12 : Int32)), .val (.ref (w 16)), .unset, .unset, .unset] [(.ref (w 16))])) rfl (hb hby at_14)
    refine Goes.by st117 ?_
    refine Goes.by (fun _ kz => Jvm.RoadKit.acmp (g := (mkF m 17 #[.val (.int p1), .val (.int (12 : Int32)), .val (.ref (w 16)), .unset, .unset, .unset] [(.ref (w 1)), (.ref (w 16))])) X117 hx rfl rfl rfl (pc0 := 17) (pc' := 20) (same := false) rfl (hb hby at_17) rfl (decide_eq_false fun q => (Ne.symm (own_ne_1_16 P)) (Value.ref.inj q)) (by decide) (by decide) (XS.aloadN X117.here hx rfl (hb hby at_20) rfl rfl kz)) ?_
    obtain ⟨T118, X118, e118, st118⟩ := getS2 X117 hx hZ hown (host := "") (Or.inl (hw _ (List.mem_of_getElem? (i := 10) rfl))) Via.refl e117 P.2.2.2.2.1 (g := (mkF m 21 #[.val (.int p1), .val (.int (12 : Int32)), .val (.ref (w 16)), .unset, .unset, .unset] [(.ref (w 16))])) rfl (hb hby at_21)
    refine Goes.by st118 ?_
    refine Goes.by (fun _ kz => Jvm.RoadKit.acmp (g := (mkF m 24 #[.val (.int p1), .val (.int (12 : Int32)), .val (.ref (w 16)), .unset, .unset, .unset] [(.ref (w 2)), (.ref (w 16))])) X118 hx rfl rfl rfl (pc0 := 24) (pc' := 27) (same := false) rfl (hb hby at_24) rfl (decide_eq_false fun q => (Ne.symm (own_ne_2_16 P)) (Value.ref.inj q)) (by decide) (by decide) (XS.aloadN X118.here hx rfl (hb hby at_27) rfl rfl kz)) ?_
    obtain ⟨T119, X119, e119, st119⟩ := getS2 X118 hx hZ hown (host := "") (Or.inl (hw _ (List.mem_of_getElem? (i := 12) rfl))) Via.refl e118 P.2.2.2.2.2.2.1 (g := (mkF m 28 #[.val (.int p1), .val (.int (12 : Int32)), .val (.ref (w 16)), .unset, .unset, .unset] [(.ref (w 16))])) rfl (hb hby at_28)
    refine Goes.by st119 ?_
    refine Goes.by (fun _ kz => Jvm.RoadKit.acmp (g := (mkF m 31 #[.val (.int p1), .val (.int (12 : Int32)), .val (.ref (w 16)), .unset, .unset, .unset] [(.ref (w 3)), (.ref (w 16))])) X119 hx rfl rfl rfl (pc0 := 31) (pc' := 34) (same := false) rfl (hb hby at_31) rfl (decide_eq_false fun q => (Ne.symm (own_ne_3_16 P)) (Value.ref.inj q)) (by decide) (by decide) (XS.aloadN X119.here hx rfl (hb hby at_34) rfl rfl kz)) ?_
    obtain ⟨T120, X120, e120, st120⟩ := getS2 X119 hx hZ hown (host := "") (Or.inl (hw _ (List.mem_of_getElem? (i := 14) rfl))) Via.refl e119 P.2.2.2.2.2.2.2.2.1 (g := (mkF m 35 #[.val (.int p1), .val (.int (12 : Int32)), .val (.ref (w 16)), .unset, .unset, .unset] [(.ref (w 16))])) rfl (hb hby at_35)
    refine Goes.by st120 ?_
    refine Goes.by (fun _ kz => Jvm.RoadKit.acmp (g := (mkF m 38 #[.val (.int p1), .val (.int (12 : Int32)), .val (.ref (w 16)), .unset, .unset, .unset] [(.ref (w 4)), (.ref (w 16))])) X120 hx rfl rfl rfl (pc0 := 38) (pc' := 45) (same := false) rfl (hb hby at_38) rfl (decide_eq_false fun q => (Ne.symm (own_ne_4_16 P)) (Value.ref.inj q)) (by decide) (by decide) (XS.iconst X120.here hx rfl (hb hby at_45) (XS.istoreN X120.here hx rfl (hb hby at_46) rfl (l' := #[.val (.int p1), .val (.int (12 : Int32)), .val (.ref (w 16)), .val (.int (0 : Int32)), .unset, .unset]) rfl kz))) ?_
    show Goes p e below (T120.setTop (mkF m 47 #[.val (.int p1), .val (.int (12 : Int32)), .val (.ref (w 16)), .val (.int (0 : Int32)), .unset, .unset] [])) _
    refine Goes.by (fun _ kz => XS.aloadN X120.here hx rfl (hb hby at_47) rfl rfl kz) ?_
    obtain ⟨cq122, kq122, q122a, q122b, q122c⟩ := isOf hZ e120 P.2.2.2.2.2.2.2.2.2.2.2.2.2.2.2.2.2.2.2.2.2.2.2.2.2.2.2.2.2.2.2.2.2.1
    obtain ⟨_, _, ⟨T122, L122, k122, n122⟩, -, X122, ⟨Lc122, hQ122, l122, y122, z122⟩, st122⟩ := X120.virtualBack hx (y := (⟨"com/example/strict_credit/strictcredit/diameter/ResultCode", "code", "()I"⟩ : MethodName)) (z := (⟨"com/example/strict_credit/strictcredit/diameter/ResultCode", "code", "()I"⟩ : MethodName)) hown (mvT hZ (hw _ (List.mem_of_getElem? (i := 16) rfl))) (mvT hZ (hw _ (List.mem_of_getElem? (i := 17) rfl))) (notFace_of_selects (args := #[]) (mvT hZ (hw _ (List.mem_of_getElem? (i := 19) rfl)))) (mvT hZ (hw _ (List.mem_of_getElem? (i := 19) rfl))) (mvT hZ (hw _ (List.mem_of_getElem? (i := 18) rfl))) (by decide) (backOf (W := 0) (r2_37 l Z a0 hw [] h0 n0 Z0 w P) hZ (hw _ (List.mem_of_getElem? (i := 20) rfl)) (hw _ (List.mem_of_getElem? (i := 6) rfl)) (by decide) (by decide)) q122a q122c (g := (mkF m 48 #[.val (.int p1), .val (.int (12 : Int32)), .val (.ref (w 16)), .val (.int (0 : Int32)), .unset, .unset] [(.ref (w 16))])) rfl (by rw [hml]; rfl) (Steps.refl _) (argsL := []) (rest := []) (lenOf pd1 rfl) rfl (by show 2 * 0 + _ ≤ _; exact Nat.le_of_eq rfl) (hb hby at_48) (fun _ _ => ⟨rfl, e120, (by decide : 0 + 0 ≤ _), (by decide : 0 + 0 ≤ _)⟩)
    dsimp only [Pt.U, Pt.locs, Pt.cells, Pt.slots] at X122 l122 y122 z122 st122 hQ122
    subst l122 y122 z122
    obtain ⟨rfl, Nq122, e122⟩ := hQ122
    have N122 := Fr.app N116 Nq122
    refine Goes.tr st122 ?_
    refine Goes.by (fun _ kz => XS.istore X122.here hx rfl (hb hby at_51) rfl (l' := #[.val (.int p1), .val (.int (12 : Int32)), .val (.ref (w 16)), .val (.int (0 : Int32)), .val (.int (5009 : Int32)), .unset]) rfl (XS.iload X122.here hx rfl (hb hby at_53) rfl (XS.sipush X122.here hx rfl (hb hby at_55) kz))) ?_
    show Goes p e below (T122.setTop (mkF m 58 #[.val (.int p1), .val (.int (12 : Int32)), .val (.ref (w 16)), .val (.int (0 : Int32)), .val (.int (5009 : Int32)), .unset] [(.int (3000 : Int32)), (.int (5009 : Int32))])) _
    refine Goes.by (fun _ kz => XS.icmpNo X122.here hx rfl (hb hby at_58) rfl (flt (by decide : ¬ ((5009 : Int32) < (3000 : Int32)))).1 (XS.iload X122.here hx rfl (hb hby at_61) rfl (XS.sipush X122.here hx rfl (hb hby at_63) kz))) ?_
    show Goes p e below (T122.setTop (mkF m 66 #[.val (.int p1), .val (.int (12 : Int32)), .val (.ref (w 16)), .val (.int (0 : Int32)), .val (.int (5009 : Int32)), .unset] [(.int (3999 : Int32)), (.int (5009 : Int32))])) _
    refine Goes.by (fun _ kz => XS.icmpYes X122.here hx rfl (pc0 := 66) (pc' := 73) rfl (hb hby at_66) rfl (tlt (by decide : (3999 : Int32) < (5009 : Int32))).2.2.1 (by decide) (by decide) (XS.iconst X122.here hx rfl (hb hby at_73) (XS.istore X122.here hx rfl (hb hby at_74) rfl (l' := #[.val (.int p1), .val (.int (12 : Int32)), .val (.ref (w 16)), .val (.int (0 : Int32)), .val (.int (5009 : Int32)), .val (.int (0 : Int32))]) rfl kz))) ?_
    show Goes p e below (T122.setTop (mkF m 76 #[.val (.int p1), .val (.int (12 : Int32)), .val (.ref (w 16)), .val (.int (0 : Int32)), .val (.int (5009 : Int32)), .val (.int (0 : Int32))] [])) _
    refine Goes.by (fun _ kz => XS.aloadN X122.here hx rfl (hb hby at_76) rfl rfl kz) ?_
    obtain ⟨cq124, kq124, q124a, q124b, q124c⟩ := isOf hZ e122 P.2.2.2.2.2.2.2.2.2.2.2.2.2.2.2.2.2.2.2.2.2.2.2.2.2.2.2.2.2.2.2.2.2.1
    obtain ⟨_, _, ⟨T124, L124, k124, n124⟩, -, X124, ⟨Lc124, hQ124, l124, y124, z124⟩, st124⟩ := X122.virtualBack hx (y := (⟨"com/example/strict_credit/strictcredit/diameter/ResultCode", "isProtocolError", "()Z"⟩ : MethodName)) (z := (⟨"com/example/strict_credit/strictcredit/diameter/ResultCode", "isProtocolError", "()Z"⟩ : MethodName)) hown (mvT hZ (hw _ (List.mem_of_getElem? (i := 23) rfl))) (mvT hZ (hw _ (List.mem_of_getElem? (i := 24) rfl))) (notFace_of_selects (args := #[]) (mvT hZ (hw _ (List.mem_of_getElem? (i := 26) rfl)))) (mvT hZ (hw _ (List.mem_of_getElem? (i := 26) rfl))) (mvT hZ (hw _ (List.mem_of_getElem? (i := 25) rfl))) (by decide) (backOf (W := 0) (r3_38 l Z a0 hw [] h0 n0 Z0 w P) hZ (hw _ (List.mem_of_getElem? (i := 27) rfl)) (hw _ (List.mem_of_getElem? (i := 6) rfl)) (by decide) (by decide)) q124a q124c (g := (mkF m 77 #[.val (.int p1), .val (.int (12 : Int32)), .val (.ref (w 16)), .val (.int (0 : Int32)), .val (.int (5009 : Int32)), .val (.int (0 : Int32))] [(.ref (w 16))])) rfl (by rw [hml]; rfl) (Steps.refl _) (argsL := []) (rest := []) (lenOf pd2 rfl) rfl (by show 2 * 0 + _ ≤ _; exact Nat.le_of_eq rfl) (hb hby at_77) (fun _ _ => ⟨rfl, e122, (by decide : 0 + 0 ≤ _), (by decide : 0 + 0 ≤ _)⟩)
    dsimp only [Pt.U, Pt.locs, Pt.cells, Pt.slots] at X124 l124 y124 z124 st124 hQ124
    subst l124 y124 z124
    obtain ⟨rfl, Nq124, e124⟩ := hQ124
    have N124 := Fr.app N122 Nq124
    refine Goes.tr st124 ?_
    refine Goes.by (fun _ kz => XS.iloadN X124.here hx rfl (hb hby at_80) rfl (XS.icmpNo X124.here hx rfl (hb hby at_81) rfl (teq (by decide : (0 : Int32) = (0 : Int32))).2 (XS.iloadN X124.here hx rfl (hb hby at_84) rfl kz))) ?_
    show Goes p e below (T124.setTop (mkF m 85 #[.val (.int p1), .val (.int (12 : Int32)), .val (.ref (w 16)), .val (.int (0 : Int32)), .val (.int (5009 : Int32)), .val (.int (0 : Int32))] [(.int (0 : Int32))])) _
    refine Goes.by (fun _ kz => XS.iload X124.here hx rfl (hb hby at_85) rfl (XS.icmpNo X124.here hx rfl (hb hby at_87) rfl (teq (by decide : (0 : Int32) = (0 : Int32))).2 (XS.iconst X124.here hx rfl (hb hby at_90) kz))) ?_
    show Goes p e below (T124.setTop (mkF m 91 #[.val (.int p1), .val (.int (12 : Int32)), .val (.ref (w 16)), .val (.int (0 : Int32)), .val (.int (5009 : Int32)), .val (.int (0 : Int32))] [(.int (1 : Int32))])) _
    refine Goes.by (fun _ kz => XS.goto X124.here hx rfl (pc0 := 91) (pc' := 95) rfl (hb hby at_91) (by decide) (by decide) kz) ?_
    show Goes p e below (T124.setTop (mkF m 95 #[.val (.int p1), .val (.int (12 : Int32)), .val (.ref (w 16)), .val (.int (0 : Int32)), .val (.int (5009 : Int32)), .val (.int (0 : Int32))] [(.int (1 : Int32))])) _
    obtain ⟨fs, hr, hrun, hended, hW, hsame⟩ := X124.leave (v := some (.int (1 : Int32))) (fun h => by rw [Bd.returns] at h; cases h)
    exact ⟨_, _, retN X124 hx (t := .boolean) Bd.returns (by simp) (hb hby at_95) hr, hrun, hended, _, _, rfl, ⟨rfl, N124⟩, ⟨_, rfl⟩, hW, hsame.mono (by decide) (by decide)⟩
  · show Goes p e below (s₁.setTop (mkF m 8 #[.val (.int p1), .val (.int (13 : Int32)), .unset, .unset, .unset, .unset] [])) _
    refine Goes.by (fun _ kz => XS.iloadN X0.here hx rfl (hb hby at_8) rfl kz) ?_
    obtain ⟨_, _, ⟨T126, L126, k126, n126⟩, -, X126, ⟨Lc126, hQ126, l126, y126, z126⟩, st126⟩ := Jvm.LawKit.callS X0 hx (y := (⟨"com/example/strict_credit/strictcredit/diameter/ResultCodeIsProtocolErrorPinLaw", "pick", "(I)Lcom/example/strict_credit/strictcredit/diameter/ResultCode;"⟩ : MethodName)) hown (mvT hZ (hw _ (List.mem_of_getElem? (i := 1) rfl))) (mvT hZ (hw _ (List.mem_of_getElem? (i := 2) rfl))) (mvT hZ (hw _ (List.mem_of_getElem? (i := 3) rfl))) (mvT hZ (hw _ (List.mem_of_getElem? (i := 4) rfl))) (by decide) (backOf (W := 0) (r1_39 l Z a0 hw [] h0 n0 Z0 w P) hZ (hw _ (List.mem_of_getElem? (i := 4) rfl)) (hw _ (List.mem_of_getElem? (i := 3) rfl)) (by decide) (by decide)) (g := (mkF m 9 #[.val (.int p1), .val (.int (13 : Int32)), .unset, .unset, .unset, .unset] [(.int (13 : Int32))])) rfl (by rw [hml]; rfl) (argsL := [(.int (13 : Int32))]) (rest := []) (lenOf pd0 rfl) rfl (by show 2 * 0 + _ ≤ _; exact Nat.le_of_eq rfl) (hb hby at_9) (fun _ _ => ⟨rfl, e0, (by decide : 0 + 0 ≤ _), (by decide : 0 + 0 ≤ _)⟩)
    dsimp only [Pt.U, Pt.locs, Pt.cells, Pt.slots] at X126 l126 y126 z126 st126 hQ126
    subst l126 y126 z126
    obtain ⟨rfl, Nq126, e126⟩ := hQ126
    have N126 := Fr.app N0 Nq126
    refine Goes.by st126 ?_
    refine Goes.by (fun _ kz => XS.astoreN X126.here hx rfl (hb hby at_12) rfl rfl (l' := #[.val (.int p1), .val (.int (13 : Int32)), .val (.ref (w 18)), .unset, .unset, .unset]) rfl (XS.aloadN X126.here hx rfl (hb hby at_13) rfl rfl kz)) ?_
    obtain ⟨T127, X127, e127, st127⟩ := getS2 X126 hx hZ hown (host := "") (Or.inl (hw _ (List.mem_of_getElem? (i := 8) rfl))) Via.refl e126 P.2.2.1 (g := (mkF m 14 #[.val (.int p1), .val (.int (13 : Int32)), .val (.ref (w 18)), .unset, .unset, .unset] [(.ref (w 18))])) rfl (hb hby at_14)
    refine Goes.by st127 ?_
    refine Goes.by (fun _ kz => Jvm.RoadKit.acmp (g := (mkF m 17 #[.val (.int p1), .val (.int (13 : Int32)), .val (.ref (w 18)), .unset, .unset, .unset] [(.ref (w 1)), (.ref (w 18))])) X127 hx rfl rfl rfl (pc0 := 17) (pc' := 20) (same := false) rfl (hb hby at_17) rfl (decide_eq_false fun q => (Ne.symm (own_ne_1_18 P)) (Value.ref.inj q)) (by decide) (by decide) (XS.aloadN X127.here hx rfl (hb hby at_20) rfl rfl kz)) ?_
    obtain ⟨T128, X128, e128, st128⟩ := getS2 X127 hx hZ hown (host := "") (Or.inl (hw _ (List.mem_of_getElem? (i := 10) rfl))) Via.refl e127 P.2.2.2.2.1 (g := (mkF m 21 #[.val (.int p1), .val (.int (13 : Int32)), .val (.ref (w 18)), .unset, .unset, .unset] [(.ref (w 18))])) rfl (hb hby at_21)
    refine Goes.by st128 ?_
    refine Goes.by (fun _ kz => Jvm.RoadKit.acmp (g := (mkF m 24 #[.val (.int p1), .val (.int (13 : Int32)), .val (.ref (w 18)), .unset, .unset, .unset] [(.ref (w 2)), (.ref (w 18))])) X128 hx rfl rfl rfl (pc0 := 24) (pc' := 27) (same := false) rfl (hb hby at_24) rfl (decide_eq_false fun q => (Ne.symm (own_ne_2_18 P)) (Value.ref.inj q)) (by decide) (by decide) (XS.aloadN X128.here hx rfl (hb hby at_27) rfl rfl kz)) ?_
    obtain ⟨T129, X129, e129, st129⟩ := getS2 X128 hx hZ hown (host := "") (Or.inl (hw _ (List.mem_of_getElem? (i := 12) rfl))) Via.refl e128 P.2.2.2.2.2.2.1 (g := (mkF m 28 #[.val (.int p1), .val (.int (13 : Int32)), .val (.ref (w 18)), .unset, .unset, .unset] [(.ref (w 18))])) rfl (hb hby at_28)
    refine Goes.by st129 ?_
    refine Goes.by (fun _ kz => Jvm.RoadKit.acmp (g := (mkF m 31 #[.val (.int p1), .val (.int (13 : Int32)), .val (.ref (w 18)), .unset, .unset, .unset] [(.ref (w 3)), (.ref (w 18))])) X129 hx rfl rfl rfl (pc0 := 31) (pc' := 34) (same := false) rfl (hb hby at_31) rfl (decide_eq_false fun q => (Ne.symm (own_ne_3_18 P)) (Value.ref.inj q)) (by decide) (by decide) (XS.aloadN X129.here hx rfl (hb hby at_34) rfl rfl kz)) ?_
    obtain ⟨T130, X130, e130, st130⟩ := getS2 X129 hx hZ hown (host := "") (Or.inl (hw _ (List.mem_of_getElem? (i := 14) rfl))) Via.refl e129 P.2.2.2.2.2.2.2.2.1 (g := (mkF m 35 #[.val (.int p1), .val (.int (13 : Int32)), .val (.ref (w 18)), .unset, .unset, .unset] [(.ref (w 18))])) rfl (hb hby at_35)
    refine Goes.by st130 ?_
    refine Goes.by (fun _ kz => Jvm.RoadKit.acmp (g := (mkF m 38 #[.val (.int p1), .val (.int (13 : Int32)), .val (.ref (w 18)), .unset, .unset, .unset] [(.ref (w 4)), (.ref (w 18))])) X130 hx rfl rfl rfl (pc0 := 38) (pc' := 45) (same := false) rfl (hb hby at_38) rfl (decide_eq_false fun q => (Ne.symm (own_ne_4_18 P)) (Value.ref.inj q)) (by decide) (by decide) (XS.iconst X130.here hx rfl (hb hby at_45) (XS.istoreN X130.here hx rfl (hb hby at_46) rfl (l' := #[.val (.int p1), .val (.int (13 : Int32)), .val (.ref (w 18)), .val (.int (0 : Int32)), .unset, .unset]) rfl kz))) ?_
    show Goes p e below (T130.setTop (mkF m 47 #[.val (.int p1), .val (.int (13 : Int32)), .val (.ref (w 18)), .val (.int (0 : Int32)), .unset, .unset] [])) _
    refine Goes.by (fun _ kz => XS.aloadN X130.here hx rfl (hb hby at_47) rfl rfl kz) ?_
    obtain ⟨cq132, kq132, q132a, q132b, q132c⟩ := isOf hZ e130 P.2.2.2.2.2.2.2.2.2.2.2.2.2.2.2.2.2.2.2.2.2.2.2.2.2.2.2.2.2.2.2.2.2.2.2.2.2.1
    obtain ⟨_, _, ⟨T132, L132, k132, n132⟩, -, X132, ⟨Lc132, hQ132, l132, y132, z132⟩, st132⟩ := X130.virtualBack hx (y := (⟨"com/example/strict_credit/strictcredit/diameter/ResultCode", "code", "()I"⟩ : MethodName)) (z := (⟨"com/example/strict_credit/strictcredit/diameter/ResultCode", "code", "()I"⟩ : MethodName)) hown (mvT hZ (hw _ (List.mem_of_getElem? (i := 16) rfl))) (mvT hZ (hw _ (List.mem_of_getElem? (i := 17) rfl))) (notFace_of_selects (args := #[]) (mvT hZ (hw _ (List.mem_of_getElem? (i := 19) rfl)))) (mvT hZ (hw _ (List.mem_of_getElem? (i := 19) rfl))) (mvT hZ (hw _ (List.mem_of_getElem? (i := 18) rfl))) (by decide) (backOf (W := 0) (r2_40 l Z a0 hw [] h0 n0 Z0 w P) hZ (hw _ (List.mem_of_getElem? (i := 20) rfl)) (hw _ (List.mem_of_getElem? (i := 6) rfl)) (by decide) (by decide)) q132a q132c (g := (mkF m 48 #[.val (.int p1), .val (.int (13 : Int32)), .val (.ref (w 18)), .val (.int (0 : Int32)), .unset, .unset] [(.ref (w 18))])) rfl (by rw [hml]; rfl) (Steps.refl _) (argsL := []) (rest := []) (lenOf pd1 rfl) rfl (by show 2 * 0 + _ ≤ _; exact Nat.le_of_eq rfl) (hb hby at_48) (fun _ _ => ⟨rfl, e130, (by decide : 0 + 0 ≤ _), (by decide : 0 + 0 ≤ _)⟩)
    dsimp only [Pt.U, Pt.locs, Pt.cells, Pt.slots] at X132 l132 y132 z132 st132 hQ132
    subst l132 y132 z132
    obtain ⟨rfl, Nq132, e132⟩ := hQ132
    have N132 := Fr.app N126 Nq132
    refine Goes.tr st132 ?_
    refine Goes.by (fun _ kz => XS.istore X132.here hx rfl (hb hby at_51) rfl (l' := #[.val (.int p1), .val (.int (13 : Int32)), .val (.ref (w 18)), .val (.int (0 : Int32)), .val (.int (5010 : Int32)), .unset]) rfl (XS.iload X132.here hx rfl (hb hby at_53) rfl (XS.sipush X132.here hx rfl (hb hby at_55) kz))) ?_
    show Goes p e below (T132.setTop (mkF m 58 #[.val (.int p1), .val (.int (13 : Int32)), .val (.ref (w 18)), .val (.int (0 : Int32)), .val (.int (5010 : Int32)), .unset] [(.int (3000 : Int32)), (.int (5010 : Int32))])) _
    refine Goes.by (fun _ kz => XS.icmpNo X132.here hx rfl (hb hby at_58) rfl (flt (by decide : ¬ ((5010 : Int32) < (3000 : Int32)))).1 (XS.iload X132.here hx rfl (hb hby at_61) rfl (XS.sipush X132.here hx rfl (hb hby at_63) kz))) ?_
    show Goes p e below (T132.setTop (mkF m 66 #[.val (.int p1), .val (.int (13 : Int32)), .val (.ref (w 18)), .val (.int (0 : Int32)), .val (.int (5010 : Int32)), .unset] [(.int (3999 : Int32)), (.int (5010 : Int32))])) _
    refine Goes.by (fun _ kz => XS.icmpYes X132.here hx rfl (pc0 := 66) (pc' := 73) rfl (hb hby at_66) rfl (tlt (by decide : (3999 : Int32) < (5010 : Int32))).2.2.1 (by decide) (by decide) (XS.iconst X132.here hx rfl (hb hby at_73) (XS.istore X132.here hx rfl (hb hby at_74) rfl (l' := #[.val (.int p1), .val (.int (13 : Int32)), .val (.ref (w 18)), .val (.int (0 : Int32)), .val (.int (5010 : Int32)), .val (.int (0 : Int32))]) rfl kz))) ?_
    show Goes p e below (T132.setTop (mkF m 76 #[.val (.int p1), .val (.int (13 : Int32)), .val (.ref (w 18)), .val (.int (0 : Int32)), .val (.int (5010 : Int32)), .val (.int (0 : Int32))] [])) _
    refine Goes.by (fun _ kz => XS.aloadN X132.here hx rfl (hb hby at_76) rfl rfl kz) ?_
    obtain ⟨cq134, kq134, q134a, q134b, q134c⟩ := isOf hZ e132 P.2.2.2.2.2.2.2.2.2.2.2.2.2.2.2.2.2.2.2.2.2.2.2.2.2.2.2.2.2.2.2.2.2.2.2.2.2.1
    obtain ⟨_, _, ⟨T134, L134, k134, n134⟩, -, X134, ⟨Lc134, hQ134, l134, y134, z134⟩, st134⟩ := X132.virtualBack hx (y := (⟨"com/example/strict_credit/strictcredit/diameter/ResultCode", "isProtocolError", "()Z"⟩ : MethodName)) (z := (⟨"com/example/strict_credit/strictcredit/diameter/ResultCode", "isProtocolError", "()Z"⟩ : MethodName)) hown (mvT hZ (hw _ (List.mem_of_getElem? (i := 23) rfl))) (mvT hZ (hw _ (List.mem_of_getElem? (i := 24) rfl))) (notFace_of_selects (args := #[]) (mvT hZ (hw _ (List.mem_of_getElem? (i := 26) rfl)))) (mvT hZ (hw _ (List.mem_of_getElem? (i := 26) rfl))) (mvT hZ (hw _ (List.mem_of_getElem? (i := 25) rfl))) (by decide) (backOf (W := 0) (r3_41 l Z a0 hw [] h0 n0 Z0 w P) hZ (hw _ (List.mem_of_getElem? (i := 27) rfl)) (hw _ (List.mem_of_getElem? (i := 6) rfl)) (by decide) (by decide)) q134a q134c (g := (mkF m 77 #[.val (.int p1), .val (.int (13 : Int32)), .val (.ref (w 18)), .val (.int (0 : Int32)), .val (.int (5010 : Int32)), .val (.int (0 : Int32))] [(.ref (w 18))])) rfl (by rw [hml]; rfl) (Steps.refl _) (argsL := []) (rest := []) (lenOf pd2 rfl) rfl (by show 2 * 0 + _ ≤ _; exact Nat.le_of_eq rfl) (hb hby at_77) (fun _ _ => ⟨rfl, e132, (by decide : 0 + 0 ≤ _), (by decide : 0 + 0 ≤ _)⟩)
    dsimp only [Pt.U, Pt.locs, Pt.cells, Pt.slots] at X134 l134 y134 z134 st134 hQ134
    subst l134 y134 z134
    obtain ⟨rfl, Nq134, e134⟩ := hQ134
    have N134 := Fr.app N132 Nq134
    refine Goes.tr st134 ?_
    refine Goes.by (fun _ kz => XS.iloadN X134.here hx rfl (hb hby at_80) rfl (XS.icmpNo X134.here hx rfl (hb hby at_81) rfl (teq (by decide : (0 : Int32) = (0 : Int32))).2 (XS.iloadN X134.here hx rfl (hb hby at_84) rfl kz))) ?_
    show Goes p e below (T134.setTop (mkF m 85 #[.val (.int p1), .val (.int (13 : Int32)), .val (.ref (w 18)), .val (.int (0 : Int32)), .val (.int (5010 : Int32)), .val (.int (0 : Int32))] [(.int (0 : Int32))])) _
    refine Goes.by (fun _ kz => XS.iload X134.here hx rfl (hb hby at_85) rfl (XS.icmpNo X134.here hx rfl (hb hby at_87) rfl (teq (by decide : (0 : Int32) = (0 : Int32))).2 (XS.iconst X134.here hx rfl (hb hby at_90) kz))) ?_
    show Goes p e below (T134.setTop (mkF m 91 #[.val (.int p1), .val (.int (13 : Int32)), .val (.ref (w 18)), .val (.int (0 : Int32)), .val (.int (5010 : Int32)), .val (.int (0 : Int32))] [(.int (1 : Int32))])) _
    refine Goes.by (fun _ kz => XS.goto X134.here hx rfl (pc0 := 91) (pc' := 95) rfl (hb hby at_91) (by decide) (by decide) kz) ?_
    show Goes p e below (T134.setTop (mkF m 95 #[.val (.int p1), .val (.int (13 : Int32)), .val (.ref (w 18)), .val (.int (0 : Int32)), .val (.int (5010 : Int32)), .val (.int (0 : Int32))] [(.int (1 : Int32))])) _
    obtain ⟨fs, hr, hrun, hended, hW, hsame⟩ := X134.leave (v := some (.int (1 : Int32))) (fun h => by rw [Bd.returns] at h; cases h)
    exact ⟨_, _, retN X134 hx (t := .boolean) Bd.returns (by simp) (hb hby at_95) hr, hrun, hended, _, _, rfl, ⟨rfl, N134⟩, ⟨_, rfl⟩, hW, hsame.mono (by decide) (by decide)⟩
  · show Goes p e below (s₁.setTop (mkF m 8 #[.val (.int p1), .val (.int (14 : Int32)), .unset, .unset, .unset, .unset] [])) _
    refine Goes.by (fun _ kz => XS.iloadN X0.here hx rfl (hb hby at_8) rfl kz) ?_
    obtain ⟨_, _, ⟨T136, L136, k136, n136⟩, -, X136, ⟨Lc136, hQ136, l136, y136, z136⟩, st136⟩ := Jvm.LawKit.callS X0 hx (y := (⟨"com/example/strict_credit/strictcredit/diameter/ResultCodeIsProtocolErrorPinLaw", "pick", "(I)Lcom/example/strict_credit/strictcredit/diameter/ResultCode;"⟩ : MethodName)) hown (mvT hZ (hw _ (List.mem_of_getElem? (i := 1) rfl))) (mvT hZ (hw _ (List.mem_of_getElem? (i := 2) rfl))) (mvT hZ (hw _ (List.mem_of_getElem? (i := 3) rfl))) (mvT hZ (hw _ (List.mem_of_getElem? (i := 4) rfl))) (by decide) (backOf (W := 0) (r1_42 l Z a0 hw [] h0 n0 Z0 w P) hZ (hw _ (List.mem_of_getElem? (i := 4) rfl)) (hw _ (List.mem_of_getElem? (i := 3) rfl)) (by decide) (by decide)) (g := (mkF m 9 #[.val (.int p1), .val (.int (14 : Int32)), .unset, .unset, .unset, .unset] [(.int (14 : Int32))])) rfl (by rw [hml]; rfl) (argsL := [(.int (14 : Int32))]) (rest := []) (lenOf pd0 rfl) rfl (by show 2 * 0 + _ ≤ _; exact Nat.le_of_eq rfl) (hb hby at_9) (fun _ _ => ⟨rfl, e0, (by decide : 0 + 0 ≤ _), (by decide : 0 + 0 ≤ _)⟩)
    dsimp only [Pt.U, Pt.locs, Pt.cells, Pt.slots] at X136 l136 y136 z136 st136 hQ136
    subst l136 y136 z136
    obtain ⟨rfl, Nq136, e136⟩ := hQ136
    have N136 := Fr.app N0 Nq136
    refine Goes.by st136 ?_
    refine Goes.by (fun _ kz => XS.astoreN X136.here hx rfl (hb hby at_12) rfl rfl (l' := #[.val (.int p1), .val (.int (14 : Int32)), .val (.ref (w 7)), .unset, .unset, .unset]) rfl (XS.aloadN X136.here hx rfl (hb hby at_13) rfl rfl kz)) ?_
    obtain ⟨T137, X137, e137, st137⟩ := getS2 X136 hx hZ hown (host := "") (Or.inl (hw _ (List.mem_of_getElem? (i := 8) rfl))) Via.refl e136 P.2.2.1 (g := (mkF m 14 #[.val (.int p1), .val (.int (14 : Int32)), .val (.ref (w 7)), .unset, .unset, .unset] [(.ref (w 7))])) rfl (hb hby at_14)
    refine Goes.by st137 ?_
    refine Goes.by (fun _ kz => Jvm.RoadKit.acmp (g := (mkF m 17 #[.val (.int p1), .val (.int (14 : Int32)), .val (.ref (w 7)), .unset, .unset, .unset] [(.ref (w 1)), (.ref (w 7))])) X137 hx rfl rfl rfl (pc0 := 17) (pc' := 20) (same := false) rfl (hb hby at_17) rfl (decide_eq_false fun q => (Ne.symm (own_ne_1_7 P)) (Value.ref.inj q)) (by decide) (by decide) (XS.aloadN X137.here hx rfl (hb hby at_20) rfl rfl kz)) ?_
    obtain ⟨T138, X138, e138, st138⟩ := getS2 X137 hx hZ hown (host := "") (Or.inl (hw _ (List.mem_of_getElem? (i := 10) rfl))) Via.refl e137 P.2.2.2.2.1 (g := (mkF m 21 #[.val (.int p1), .val (.int (14 : Int32)), .val (.ref (w 7)), .unset, .unset, .unset] [(.ref (w 7))])) rfl (hb hby at_21)
    refine Goes.by st138 ?_
    refine Goes.by (fun _ kz => Jvm.RoadKit.acmp (g := (mkF m 24 #[.val (.int p1), .val (.int (14 : Int32)), .val (.ref (w 7)), .unset, .unset, .unset] [(.ref (w 2)), (.ref (w 7))])) X138 hx rfl rfl rfl (pc0 := 24) (pc' := 27) (same := false) rfl (hb hby at_24) rfl (decide_eq_false fun q => (Ne.symm (own_ne_2_7 P)) (Value.ref.inj q)) (by decide) (by decide) (XS.aloadN X138.here hx rfl (hb hby at_27) rfl rfl kz)) ?_
    obtain ⟨T139, X139, e139, st139⟩ := getS2 X138 hx hZ hown (host := "") (Or.inl (hw _ (List.mem_of_getElem? (i := 12) rfl))) Via.refl e138 P.2.2.2.2.2.2.1 (g := (mkF m 28 #[.val (.int p1), .val (.int (14 : Int32)), .val (.ref (w 7)), .unset, .unset, .unset] [(.ref (w 7))])) rfl (hb hby at_28)
    refine Goes.by st139 ?_
    refine Goes.by (fun _ kz => Jvm.RoadKit.acmp (g := (mkF m 31 #[.val (.int p1), .val (.int (14 : Int32)), .val (.ref (w 7)), .unset, .unset, .unset] [(.ref (w 3)), (.ref (w 7))])) X139 hx rfl rfl rfl (pc0 := 31) (pc' := 34) (same := false) rfl (hb hby at_31) rfl (decide_eq_false fun q => (Ne.symm (own_ne_3_7 P)) (Value.ref.inj q)) (by decide) (by decide) (XS.aloadN X139.here hx rfl (hb hby at_34) rfl rfl kz)) ?_
    obtain ⟨T140, X140, e140, st140⟩ := getS2 X139 hx hZ hown (host := "") (Or.inl (hw _ (List.mem_of_getElem? (i := 14) rfl))) Via.refl e139 P.2.2.2.2.2.2.2.2.1 (g := (mkF m 35 #[.val (.int p1), .val (.int (14 : Int32)), .val (.ref (w 7)), .unset, .unset, .unset] [(.ref (w 7))])) rfl (hb hby at_35)
    refine Goes.by st140 ?_
    refine Goes.by (fun _ kz => Jvm.RoadKit.acmp (g := (mkF m 38 #[.val (.int p1), .val (.int (14 : Int32)), .val (.ref (w 7)), .unset, .unset, .unset] [(.ref (w 4)), (.ref (w 7))])) X140 hx rfl rfl rfl (pc0 := 38) (pc' := 45) (same := false) rfl (hb hby at_38) rfl (decide_eq_false fun q => (Ne.symm (own_ne_4_7 P)) (Value.ref.inj q)) (by decide) (by decide) (XS.iconst X140.here hx rfl (hb hby at_45) (XS.istoreN X140.here hx rfl (hb hby at_46) rfl (l' := #[.val (.int p1), .val (.int (14 : Int32)), .val (.ref (w 7)), .val (.int (0 : Int32)), .unset, .unset]) rfl kz))) ?_
    show Goes p e below (T140.setTop (mkF m 47 #[.val (.int p1), .val (.int (14 : Int32)), .val (.ref (w 7)), .val (.int (0 : Int32)), .unset, .unset] [])) _
    refine Goes.by (fun _ kz => XS.aloadN X140.here hx rfl (hb hby at_47) rfl rfl kz) ?_
    obtain ⟨cq142, kq142, q142a, q142b, q142c⟩ := isOf hZ e140 P.2.2.2.2.2.2.2.2.2.2.2.2.2.2.2.1
    obtain ⟨_, _, ⟨T142, L142, k142, n142⟩, -, X142, ⟨Lc142, hQ142, l142, y142, z142⟩, st142⟩ := X140.virtualBack hx (y := (⟨"com/example/strict_credit/strictcredit/diameter/ResultCode", "code", "()I"⟩ : MethodName)) (z := (⟨"com/example/strict_credit/strictcredit/diameter/ResultCode", "code", "()I"⟩ : MethodName)) hown (mvT hZ (hw _ (List.mem_of_getElem? (i := 16) rfl))) (mvT hZ (hw _ (List.mem_of_getElem? (i := 17) rfl))) (notFace_of_selects (args := #[]) (mvT hZ (hw _ (List.mem_of_getElem? (i := 19) rfl)))) (mvT hZ (hw _ (List.mem_of_getElem? (i := 19) rfl))) (mvT hZ (hw _ (List.mem_of_getElem? (i := 18) rfl))) (by decide) (backOf (W := 0) (r2_43 l Z a0 hw [] h0 n0 Z0 w P) hZ (hw _ (List.mem_of_getElem? (i := 20) rfl)) (hw _ (List.mem_of_getElem? (i := 6) rfl)) (by decide) (by decide)) q142a q142c (g := (mkF m 48 #[.val (.int p1), .val (.int (14 : Int32)), .val (.ref (w 7)), .val (.int (0 : Int32)), .unset, .unset] [(.ref (w 7))])) rfl (by rw [hml]; rfl) (Steps.refl _) (argsL := []) (rest := []) (lenOf pd1 rfl) rfl (by show 2 * 0 + _ ≤ _; exact Nat.le_of_eq rfl) (hb hby at_48) (fun _ _ => ⟨rfl, e140, (by decide : 0 + 0 ≤ _), (by decide : 0 + 0 ≤ _)⟩)
    dsimp only [Pt.U, Pt.locs, Pt.cells, Pt.slots] at X142 l142 y142 z142 st142 hQ142
    subst l142 y142 z142
    obtain ⟨rfl, Nq142, e142⟩ := hQ142
    have N142 := Fr.app N136 Nq142
    refine Goes.tr st142 ?_
    refine Goes.by (fun _ kz => XS.istore X142.here hx rfl (hb hby at_51) rfl (l' := #[.val (.int p1), .val (.int (14 : Int32)), .val (.ref (w 7)), .val (.int (0 : Int32)), .val (.int (5011 : Int32)), .unset]) rfl (XS.iload X142.here hx rfl (hb hby at_53) rfl (XS.sipush X142.here hx rfl (hb hby at_55) kz))) ?_
    show Goes p e below (T142.setTop (mkF m 58 #[.val (.int p1), .val (.int (14 : Int32)), .val (.ref (w 7)), .val (.int (0 : Int32)), .val (.int (5011 : Int32)), .unset] [(.int (3000 : Int32)), (.int (5011 : Int32))])) _
    refine Goes.by (fun _ kz => XS.icmpNo X142.here hx rfl (hb hby at_58) rfl (flt (by decide : ¬ ((5011 : Int32) < (3000 : Int32)))).1 (XS.iload X142.here hx rfl (hb hby at_61) rfl (XS.sipush X142.here hx rfl (hb hby at_63) kz))) ?_
    show Goes p e below (T142.setTop (mkF m 66 #[.val (.int p1), .val (.int (14 : Int32)), .val (.ref (w 7)), .val (.int (0 : Int32)), .val (.int (5011 : Int32)), .unset] [(.int (3999 : Int32)), (.int (5011 : Int32))])) _
    refine Goes.by (fun _ kz => XS.icmpYes X142.here hx rfl (pc0 := 66) (pc' := 73) rfl (hb hby at_66) rfl (tlt (by decide : (3999 : Int32) < (5011 : Int32))).2.2.1 (by decide) (by decide) (XS.iconst X142.here hx rfl (hb hby at_73) (XS.istore X142.here hx rfl (hb hby at_74) rfl (l' := #[.val (.int p1), .val (.int (14 : Int32)), .val (.ref (w 7)), .val (.int (0 : Int32)), .val (.int (5011 : Int32)), .val (.int (0 : Int32))]) rfl kz))) ?_
    show Goes p e below (T142.setTop (mkF m 76 #[.val (.int p1), .val (.int (14 : Int32)), .val (.ref (w 7)), .val (.int (0 : Int32)), .val (.int (5011 : Int32)), .val (.int (0 : Int32))] [])) _
    refine Goes.by (fun _ kz => XS.aloadN X142.here hx rfl (hb hby at_76) rfl rfl kz) ?_
    obtain ⟨cq144, kq144, q144a, q144b, q144c⟩ := isOf hZ e142 P.2.2.2.2.2.2.2.2.2.2.2.2.2.2.2.1
    obtain ⟨_, _, ⟨T144, L144, k144, n144⟩, -, X144, ⟨Lc144, hQ144, l144, y144, z144⟩, st144⟩ := X142.virtualBack hx (y := (⟨"com/example/strict_credit/strictcredit/diameter/ResultCode", "isProtocolError", "()Z"⟩ : MethodName)) (z := (⟨"com/example/strict_credit/strictcredit/diameter/ResultCode", "isProtocolError", "()Z"⟩ : MethodName)) hown (mvT hZ (hw _ (List.mem_of_getElem? (i := 23) rfl))) (mvT hZ (hw _ (List.mem_of_getElem? (i := 24) rfl))) (notFace_of_selects (args := #[]) (mvT hZ (hw _ (List.mem_of_getElem? (i := 26) rfl)))) (mvT hZ (hw _ (List.mem_of_getElem? (i := 26) rfl))) (mvT hZ (hw _ (List.mem_of_getElem? (i := 25) rfl))) (by decide) (backOf (W := 0) (r3_44 l Z a0 hw [] h0 n0 Z0 w P) hZ (hw _ (List.mem_of_getElem? (i := 27) rfl)) (hw _ (List.mem_of_getElem? (i := 6) rfl)) (by decide) (by decide)) q144a q144c (g := (mkF m 77 #[.val (.int p1), .val (.int (14 : Int32)), .val (.ref (w 7)), .val (.int (0 : Int32)), .val (.int (5011 : Int32)), .val (.int (0 : Int32))] [(.ref (w 7))])) rfl (by rw [hml]; rfl) (Steps.refl _) (argsL := []) (rest := []) (lenOf pd2 rfl) rfl (by show 2 * 0 + _ ≤ _; exact Nat.le_of_eq rfl) (hb hby at_77) (fun _ _ => ⟨rfl, e142, (by decide : 0 + 0 ≤ _), (by decide : 0 + 0 ≤ _)⟩)
    dsimp only [Pt.U, Pt.locs, Pt.cells, Pt.slots] at X144 l144 y144 z144 st144 hQ144
    subst l144 y144 z144
    obtain ⟨rfl, Nq144, e144⟩ := hQ144
    have N144 := Fr.app N142 Nq144
    refine Goes.tr st144 ?_
    refine Goes.by (fun _ kz => XS.iloadN X144.here hx rfl (hb hby at_80) rfl (XS.icmpNo X144.here hx rfl (hb hby at_81) rfl (teq (by decide : (0 : Int32) = (0 : Int32))).2 (XS.iloadN X144.here hx rfl (hb hby at_84) rfl kz))) ?_
    show Goes p e below (T144.setTop (mkF m 85 #[.val (.int p1), .val (.int (14 : Int32)), .val (.ref (w 7)), .val (.int (0 : Int32)), .val (.int (5011 : Int32)), .val (.int (0 : Int32))] [(.int (0 : Int32))])) _
    refine Goes.by (fun _ kz => XS.iload X144.here hx rfl (hb hby at_85) rfl (XS.icmpNo X144.here hx rfl (hb hby at_87) rfl (teq (by decide : (0 : Int32) = (0 : Int32))).2 (XS.iconst X144.here hx rfl (hb hby at_90) kz))) ?_
    show Goes p e below (T144.setTop (mkF m 91 #[.val (.int p1), .val (.int (14 : Int32)), .val (.ref (w 7)), .val (.int (0 : Int32)), .val (.int (5011 : Int32)), .val (.int (0 : Int32))] [(.int (1 : Int32))])) _
    refine Goes.by (fun _ kz => XS.goto X144.here hx rfl (pc0 := 91) (pc' := 95) rfl (hb hby at_91) (by decide) (by decide) kz) ?_
    show Goes p e below (T144.setTop (mkF m 95 #[.val (.int p1), .val (.int (14 : Int32)), .val (.ref (w 7)), .val (.int (0 : Int32)), .val (.int (5011 : Int32)), .val (.int (0 : Int32))] [(.int (1 : Int32))])) _
    obtain ⟨fs, hr, hrun, hended, hW, hsame⟩ := X144.leave (v := some (.int (1 : Int32))) (fun h => by rw [Bd.returns] at h; cases h)
    exact ⟨_, _, retN X144 hx (t := .boolean) Bd.returns (by simp) (hb hby at_95) hr, hrun, hended, _, _, rfl, ⟨rfl, N144⟩, ⟨_, rfl⟩, hW, hsame.mono (by decide) (by decide)⟩
  · show Goes p e below (s₁.setTop (mkF m 8 #[.val (.int p1), .val (.int (15 : Int32)), .unset, .unset, .unset, .unset] [])) _
    refine Goes.by (fun _ kz => XS.iloadN X0.here hx rfl (hb hby at_8) rfl kz) ?_
    obtain ⟨_, _, ⟨T146, L146, k146, n146⟩, -, X146, ⟨Lc146, hQ146, l146, y146, z146⟩, st146⟩ := Jvm.LawKit.callS X0 hx (y := (⟨"com/example/strict_credit/strictcredit/diameter/ResultCodeIsProtocolErrorPinLaw", "pick", "(I)Lcom/example/strict_credit/strictcredit/diameter/ResultCode;"⟩ : MethodName)) hown (mvT hZ (hw _ (List.mem_of_getElem? (i := 1) rfl))) (mvT hZ (hw _ (List.mem_of_getElem? (i := 2) rfl))) (mvT hZ (hw _ (List.mem_of_getElem? (i := 3) rfl))) (mvT hZ (hw _ (List.mem_of_getElem? (i := 4) rfl))) (by decide) (backOf (W := 0) (r1_45 l Z a0 hw [] h0 n0 Z0 w P) hZ (hw _ (List.mem_of_getElem? (i := 4) rfl)) (hw _ (List.mem_of_getElem? (i := 3) rfl)) (by decide) (by decide)) (g := (mkF m 9 #[.val (.int p1), .val (.int (15 : Int32)), .unset, .unset, .unset, .unset] [(.int (15 : Int32))])) rfl (by rw [hml]; rfl) (argsL := [(.int (15 : Int32))]) (rest := []) (lenOf pd0 rfl) rfl (by show 2 * 0 + _ ≤ _; exact Nat.le_of_eq rfl) (hb hby at_9) (fun _ _ => ⟨rfl, e0, (by decide : 0 + 0 ≤ _), (by decide : 0 + 0 ≤ _)⟩)
    dsimp only [Pt.U, Pt.locs, Pt.cells, Pt.slots] at X146 l146 y146 z146 st146 hQ146
    subst l146 y146 z146
    obtain ⟨rfl, Nq146, e146⟩ := hQ146
    have N146 := Fr.app N0 Nq146
    refine Goes.by st146 ?_
    refine Goes.by (fun _ kz => XS.astoreN X146.here hx rfl (hb hby at_12) rfl rfl (l' := #[.val (.int p1), .val (.int (15 : Int32)), .val (.ref (w 12)), .unset, .unset, .unset]) rfl (XS.aloadN X146.here hx rfl (hb hby at_13) rfl rfl kz)) ?_
    obtain ⟨T147, X147, e147, st147⟩ := getS2 X146 hx hZ hown (host := "") (Or.inl (hw _ (List.mem_of_getElem? (i := 8) rfl))) Via.refl e146 P.2.2.1 (g := (mkF m 14 #[.val (.int p1), .val (.int (15 : Int32)), .val (.ref (w 12)), .unset, .unset, .unset] [(.ref (w 12))])) rfl (hb hby at_14)
    refine Goes.by st147 ?_
    refine Goes.by (fun _ kz => Jvm.RoadKit.acmp (g := (mkF m 17 #[.val (.int p1), .val (.int (15 : Int32)), .val (.ref (w 12)), .unset, .unset, .unset] [(.ref (w 1)), (.ref (w 12))])) X147 hx rfl rfl rfl (pc0 := 17) (pc' := 20) (same := false) rfl (hb hby at_17) rfl (decide_eq_false fun q => (Ne.symm (own_ne_1_12 P)) (Value.ref.inj q)) (by decide) (by decide) (XS.aloadN X147.here hx rfl (hb hby at_20) rfl rfl kz)) ?_
    obtain ⟨T148, X148, e148, st148⟩ := getS2 X147 hx hZ hown (host := "") (Or.inl (hw _ (List.mem_of_getElem? (i := 10) rfl))) Via.refl e147 P.2.2.2.2.1 (g := (mkF m 21 #[.val (.int p1), .val (.int (15 : Int32)), .val (.ref (w 12)), .unset, .unset, .unset] [(.ref (w 12))])) rfl (hb hby at_21)
    refine Goes.by st148 ?_
    refine Goes.by (fun _ kz => Jvm.RoadKit.acmp (g := (mkF m 24 #[.val (.int p1), .val (.int (15 : Int32)), .val (.ref (w 12)), .unset, .unset, .unset] [(.ref (w 2)), (.ref (w 12))])) X148 hx rfl rfl rfl (pc0 := 24) (pc' := 27) (same := false) rfl (hb hby at_24) rfl (decide_eq_false fun q => (Ne.symm (own_ne_2_12 P)) (Value.ref.inj q)) (by decide) (by decide) (XS.aloadN X148.here hx rfl (hb hby at_27) rfl rfl kz)) ?_
    obtain ⟨T149, X149, e149, st149⟩ := getS2 X148 hx hZ hown (host := "") (Or.inl (hw _ (List.mem_of_getElem? (i := 12) rfl))) Via.refl e148 P.2.2.2.2.2.2.1 (g := (mkF m 28 #[.val (.int p1), .val (.int (15 : Int32)), .val (.ref (w 12)), .unset, .unset, .unset] [(.ref (w 12))])) rfl (hb hby at_28)
    refine Goes.by st149 ?_
    refine Goes.by (fun _ kz => Jvm.RoadKit.acmp (g := (mkF m 31 #[.val (.int p1), .val (.int (15 : Int32)), .val (.ref (w 12)), .unset, .unset, .unset] [(.ref (w 3)), (.ref (w 12))])) X149 hx rfl rfl rfl (pc0 := 31) (pc' := 34) (same := false) rfl (hb hby at_31) rfl (decide_eq_false fun q => (Ne.symm (own_ne_3_12 P)) (Value.ref.inj q)) (by decide) (by decide) (XS.aloadN X149.here hx rfl (hb hby at_34) rfl rfl kz)) ?_
    obtain ⟨T150, X150, e150, st150⟩ := getS2 X149 hx hZ hown (host := "") (Or.inl (hw _ (List.mem_of_getElem? (i := 14) rfl))) Via.refl e149 P.2.2.2.2.2.2.2.2.1 (g := (mkF m 35 #[.val (.int p1), .val (.int (15 : Int32)), .val (.ref (w 12)), .unset, .unset, .unset] [(.ref (w 12))])) rfl (hb hby at_35)
    refine Goes.by st150 ?_
    refine Goes.by (fun _ kz => Jvm.RoadKit.acmp (g := (mkF m 38 #[.val (.int p1), .val (.int (15 : Int32)), .val (.ref (w 12)), .unset, .unset, .unset] [(.ref (w 4)), (.ref (w 12))])) X150 hx rfl rfl rfl (pc0 := 38) (pc' := 45) (same := false) rfl (hb hby at_38) rfl (decide_eq_false fun q => (Ne.symm (own_ne_4_12 P)) (Value.ref.inj q)) (by decide) (by decide) (XS.iconst X150.here hx rfl (hb hby at_45) (XS.istoreN X150.here hx rfl (hb hby at_46) rfl (l' := #[.val (.int p1), .val (.int (15 : Int32)), .val (.ref (w 12)), .val (.int (0 : Int32)), .unset, .unset]) rfl kz))) ?_
    show Goes p e below (T150.setTop (mkF m 47 #[.val (.int p1), .val (.int (15 : Int32)), .val (.ref (w 12)), .val (.int (0 : Int32)), .unset, .unset] [])) _
    refine Goes.by (fun _ kz => XS.aloadN X150.here hx rfl (hb hby at_47) rfl rfl kz) ?_
    obtain ⟨cq152, kq152, q152a, q152b, q152c⟩ := isOf hZ e150 P.2.2.2.2.2.2.2.2.2.2.2.2.2.2.2.2.2.2.2.2.2.2.2.2.2.1
    obtain ⟨_, _, ⟨T152, L152, k152, n152⟩, -, X152, ⟨Lc152, hQ152, l152, y152, z152⟩, st152⟩ := X150.virtualBack hx (y := (⟨"com/example/strict_credit/strictcredit/diameter/ResultCode", "code", "()I"⟩ : MethodName)) (z := (⟨"com/example/strict_credit/strictcredit/diameter/ResultCode", "code", "()I"⟩ : MethodName)) hown (mvT hZ (hw _ (List.mem_of_getElem? (i := 16) rfl))) (mvT hZ (hw _ (List.mem_of_getElem? (i := 17) rfl))) (notFace_of_selects (args := #[]) (mvT hZ (hw _ (List.mem_of_getElem? (i := 19) rfl)))) (mvT hZ (hw _ (List.mem_of_getElem? (i := 19) rfl))) (mvT hZ (hw _ (List.mem_of_getElem? (i := 18) rfl))) (by decide) (backOf (W := 0) (r2_46 l Z a0 hw [] h0 n0 Z0 w P) hZ (hw _ (List.mem_of_getElem? (i := 20) rfl)) (hw _ (List.mem_of_getElem? (i := 6) rfl)) (by decide) (by decide)) q152a q152c (g := (mkF m 48 #[.val (.int p1), .val (.int (15 : Int32)), .val (.ref (w 12)), .val (.int (0 : Int32)), .unset, .unset] [(.ref (w 12))])) rfl (by rw [hml]; rfl) (Steps.refl _) (argsL := []) (rest := []) (lenOf pd1 rfl) rfl (by show 2 * 0 + _ ≤ _; exact Nat.le_of_eq rfl) (hb hby at_48) (fun _ _ => ⟨rfl, e150, (by decide : 0 + 0 ≤ _), (by decide : 0 + 0 ≤ _)⟩)
    dsimp only [Pt.U, Pt.locs, Pt.cells, Pt.slots] at X152 l152 y152 z152 st152 hQ152
    subst l152 y152 z152
    obtain ⟨rfl, Nq152, e152⟩ := hQ152
    have N152 := Fr.app N146 Nq152
    refine Goes.tr st152 ?_
    refine Goes.by (fun _ kz => XS.istore X152.here hx rfl (hb hby at_51) rfl (l' := #[.val (.int p1), .val (.int (15 : Int32)), .val (.ref (w 12)), .val (.int (0 : Int32)), .val (.int (5012 : Int32)), .unset]) rfl (XS.iload X152.here hx rfl (hb hby at_53) rfl (XS.sipush X152.here hx rfl (hb hby at_55) kz))) ?_
    show Goes p e below (T152.setTop (mkF m 58 #[.val (.int p1), .val (.int (15 : Int32)), .val (.ref (w 12)), .val (.int (0 : Int32)), .val (.int (5012 : Int32)), .unset] [(.int (3000 : Int32)), (.int (5012 : Int32))])) _
    refine Goes.by (fun _ kz => XS.icmpNo X152.here hx rfl (hb hby at_58) rfl (flt (by decide : ¬ ((5012 : Int32) < (3000 : Int32)))).1 (XS.iload X152.here hx rfl (hb hby at_61) rfl (XS.sipush X152.here hx rfl (hb hby at_63) kz))) ?_
    show Goes p e below (T152.setTop (mkF m 66 #[.val (.int p1), .val (.int (15 : Int32)), .val (.ref (w 12)), .val (.int (0 : Int32)), .val (.int (5012 : Int32)), .unset] [(.int (3999 : Int32)), (.int (5012 : Int32))])) _
    refine Goes.by (fun _ kz => XS.icmpYes X152.here hx rfl (pc0 := 66) (pc' := 73) rfl (hb hby at_66) rfl (tlt (by decide : (3999 : Int32) < (5012 : Int32))).2.2.1 (by decide) (by decide) (XS.iconst X152.here hx rfl (hb hby at_73) (XS.istore X152.here hx rfl (hb hby at_74) rfl (l' := #[.val (.int p1), .val (.int (15 : Int32)), .val (.ref (w 12)), .val (.int (0 : Int32)), .val (.int (5012 : Int32)), .val (.int (0 : Int32))]) rfl kz))) ?_
    show Goes p e below (T152.setTop (mkF m 76 #[.val (.int p1), .val (.int (15 : Int32)), .val (.ref (w 12)), .val (.int (0 : Int32)), .val (.int (5012 : Int32)), .val (.int (0 : Int32))] [])) _
    refine Goes.by (fun _ kz => XS.aloadN X152.here hx rfl (hb hby at_76) rfl rfl kz) ?_
    obtain ⟨cq154, kq154, q154a, q154b, q154c⟩ := isOf hZ e152 P.2.2.2.2.2.2.2.2.2.2.2.2.2.2.2.2.2.2.2.2.2.2.2.2.2.1
    obtain ⟨_, _, ⟨T154, L154, k154, n154⟩, -, X154, ⟨Lc154, hQ154, l154, y154, z154⟩, st154⟩ := X152.virtualBack hx (y := (⟨"com/example/strict_credit/strictcredit/diameter/ResultCode", "isProtocolError", "()Z"⟩ : MethodName)) (z := (⟨"com/example/strict_credit/strictcredit/diameter/ResultCode", "isProtocolError", "()Z"⟩ : MethodName)) hown (mvT hZ (hw _ (List.mem_of_getElem? (i := 23) rfl))) (mvT hZ (hw _ (List.mem_of_getElem? (i := 24) rfl))) (notFace_of_selects (args := #[]) (mvT hZ (hw _ (List.mem_of_getElem? (i := 26) rfl)))) (mvT hZ (hw _ (List.mem_of_getElem? (i := 26) rfl))) (mvT hZ (hw _ (List.mem_of_getElem? (i := 25) rfl))) (by decide) (backOf (W := 0) (r3_47 l Z a0 hw [] h0 n0 Z0 w P) hZ (hw _ (List.mem_of_getElem? (i := 27) rfl)) (hw _ (List.mem_of_getElem? (i := 6) rfl)) (by decide) (by decide)) q154a q154c (g := (mkF m 77 #[.val (.int p1), .val (.int (15 : Int32)), .val (.ref (w 12)), .val (.int (0 : Int32)), .val (.int (5012 : Int32)), .val (.int (0 : Int32))] [(.ref (w 12))])) rfl (by rw [hml]; rfl) (Steps.refl _) (argsL := []) (rest := []) (lenOf pd2 rfl) rfl (by show 2 * 0 + _ ≤ _; exact Nat.le_of_eq rfl) (hb hby at_77) (fun _ _ => ⟨rfl, e152, (by decide : 0 + 0 ≤ _), (by decide : 0 + 0 ≤ _)⟩)
    dsimp only [Pt.U, Pt.locs, Pt.cells, Pt.slots] at X154 l154 y154 z154 st154 hQ154
    subst l154 y154 z154
    obtain ⟨rfl, Nq154, e154⟩ := hQ154
    have N154 := Fr.app N152 Nq154
    refine Goes.tr st154 ?_
    refine Goes.by (fun _ kz => XS.iloadN X154.here hx rfl (hb hby at_80) rfl (XS.icmpNo X154.here hx rfl (hb hby at_81) rfl (teq (by decide : (0 : Int32) = (0 : Int32))).2 (XS.iloadN X154.here hx rfl (hb hby at_84) rfl kz))) ?_
    show Goes p e below (T154.setTop (mkF m 85 #[.val (.int p1), .val (.int (15 : Int32)), .val (.ref (w 12)), .val (.int (0 : Int32)), .val (.int (5012 : Int32)), .val (.int (0 : Int32))] [(.int (0 : Int32))])) _
    refine Goes.by (fun _ kz => XS.iload X154.here hx rfl (hb hby at_85) rfl (XS.icmpNo X154.here hx rfl (hb hby at_87) rfl (teq (by decide : (0 : Int32) = (0 : Int32))).2 (XS.iconst X154.here hx rfl (hb hby at_90) kz))) ?_
    show Goes p e below (T154.setTop (mkF m 91 #[.val (.int p1), .val (.int (15 : Int32)), .val (.ref (w 12)), .val (.int (0 : Int32)), .val (.int (5012 : Int32)), .val (.int (0 : Int32))] [(.int (1 : Int32))])) _
    refine Goes.by (fun _ kz => XS.goto X154.here hx rfl (pc0 := 91) (pc' := 95) rfl (hb hby at_91) (by decide) (by decide) kz) ?_
    show Goes p e below (T154.setTop (mkF m 95 #[.val (.int p1), .val (.int (15 : Int32)), .val (.ref (w 12)), .val (.int (0 : Int32)), .val (.int (5012 : Int32)), .val (.int (0 : Int32))] [(.int (1 : Int32))])) _
    obtain ⟨fs, hr, hrun, hended, hW, hsame⟩ := X154.leave (v := some (.int (1 : Int32))) (fun h => by rw [Bd.returns] at h; cases h)
    exact ⟨_, _, retN X154 hx (t := .boolean) Bd.returns (by simp) (hb hby at_95) hr, hrun, hended, _, _, rfl, ⟨rfl, N154⟩, ⟨_, rfl⟩, hW, hsame.mono (by decide) (by decide)⟩
  · show Goes p e below (s₁.setTop (mkF m 8 #[.val (.int p1), .val (.int (16 : Int32)), .unset, .unset, .unset, .unset] [])) _
    refine Goes.by (fun _ kz => XS.iloadN X0.here hx rfl (hb hby at_8) rfl kz) ?_
    obtain ⟨_, _, ⟨T156, L156, k156, n156⟩, -, X156, ⟨Lc156, hQ156, l156, y156, z156⟩, st156⟩ := Jvm.LawKit.callS X0 hx (y := (⟨"com/example/strict_credit/strictcredit/diameter/ResultCodeIsProtocolErrorPinLaw", "pick", "(I)Lcom/example/strict_credit/strictcredit/diameter/ResultCode;"⟩ : MethodName)) hown (mvT hZ (hw _ (List.mem_of_getElem? (i := 1) rfl))) (mvT hZ (hw _ (List.mem_of_getElem? (i := 2) rfl))) (mvT hZ (hw _ (List.mem_of_getElem? (i := 3) rfl))) (mvT hZ (hw _ (List.mem_of_getElem? (i := 4) rfl))) (by decide) (backOf (W := 0) (r1_48 l Z a0 hw [] h0 n0 Z0 w P) hZ (hw _ (List.mem_of_getElem? (i := 4) rfl)) (hw _ (List.mem_of_getElem? (i := 3) rfl)) (by decide) (by decide)) (g := (mkF m 9 #[.val (.int p1), .val (.int (16 : Int32)), .unset, .unset, .unset, .unset] [(.int (16 : Int32))])) rfl (by rw [hml]; rfl) (argsL := [(.int (16 : Int32))]) (rest := []) (lenOf pd0 rfl) rfl (by show 2 * 0 + _ ≤ _; exact Nat.le_of_eq rfl) (hb hby at_9) (fun _ _ => ⟨rfl, e0, (by decide : 0 + 0 ≤ _), (by decide : 0 + 0 ≤ _)⟩)
    dsimp only [Pt.U, Pt.locs, Pt.cells, Pt.slots] at X156 l156 y156 z156 st156 hQ156
    subst l156 y156 z156
    obtain ⟨rfl, Nq156, e156⟩ := hQ156
    have N156 := Fr.app N0 Nq156
    refine Goes.by st156 ?_
    refine Goes.by (fun _ kz => XS.astoreN X156.here hx rfl (hb hby at_12) rfl rfl (l' := #[.val (.int p1), .val (.int (16 : Int32)), .val (.ref (w 15)), .unset, .unset, .unset]) rfl (XS.aloadN X156.here hx rfl (hb hby at_13) rfl rfl kz)) ?_
    obtain ⟨T157, X157, e157, st157⟩ := getS2 X156 hx hZ hown (host := "") (Or.inl (hw _ (List.mem_of_getElem? (i := 8) rfl))) Via.refl e156 P.2.2.1 (g := (mkF m 14 #[.val (.int p1), .val (.int (16 : Int32)), .val (.ref (w 15)), .unset, .unset, .unset] [(.ref (w 15))])) rfl (hb hby at_14)
    refine Goes.by st157 ?_
    refine Goes.by (fun _ kz => Jvm.RoadKit.acmp (g := (mkF m 17 #[.val (.int p1), .val (.int (16 : Int32)), .val (.ref (w 15)), .unset, .unset, .unset] [(.ref (w 1)), (.ref (w 15))])) X157 hx rfl rfl rfl (pc0 := 17) (pc' := 20) (same := false) rfl (hb hby at_17) rfl (decide_eq_false fun q => (Ne.symm (own_ne_1_15 P)) (Value.ref.inj q)) (by decide) (by decide) (XS.aloadN X157.here hx rfl (hb hby at_20) rfl rfl kz)) ?_
    obtain ⟨T158, X158, e158, st158⟩ := getS2 X157 hx hZ hown (host := "") (Or.inl (hw _ (List.mem_of_getElem? (i := 10) rfl))) Via.refl e157 P.2.2.2.2.1 (g := (mkF m 21 #[.val (.int p1), .val (.int (16 : Int32)), .val (.ref (w 15)), .unset, .unset, .unset] [(.ref (w 15))])) rfl (hb hby at_21)
    refine Goes.by st158 ?_
    refine Goes.by (fun _ kz => Jvm.RoadKit.acmp (g := (mkF m 24 #[.val (.int p1), .val (.int (16 : Int32)), .val (.ref (w 15)), .unset, .unset, .unset] [(.ref (w 2)), (.ref (w 15))])) X158 hx rfl rfl rfl (pc0 := 24) (pc' := 27) (same := false) rfl (hb hby at_24) rfl (decide_eq_false fun q => (Ne.symm (own_ne_2_15 P)) (Value.ref.inj q)) (by decide) (by decide) (XS.aloadN X158.here hx rfl (hb hby at_27) rfl rfl kz)) ?_
    obtain ⟨T159, X159, e159, st159⟩ := getS2 X158 hx hZ hown (host := "") (Or.inl (hw _ (List.mem_of_getElem? (i := 12) rfl))) Via.refl e158 P.2.2.2.2.2.2.1 (g := (mkF m 28 #[.val (.int p1), .val (.int (16 : Int32)), .val (.ref (w 15)), .unset, .unset, .unset] [(.ref (w 15))])) rfl (hb hby at_28)
    refine Goes.by st159 ?_
    refine Goes.by (fun _ kz => Jvm.RoadKit.acmp (g := (mkF m 31 #[.val (.int p1), .val (.int (16 : Int32)), .val (.ref (w 15)), .unset, .unset, .unset] [(.ref (w 3)), (.ref (w 15))])) X159 hx rfl rfl rfl (pc0 := 31) (pc' := 34) (same := false) rfl (hb hby at_31) rfl (decide_eq_false fun q => (Ne.symm (own_ne_3_15 P)) (Value.ref.inj q)) (by decide) (by decide) (XS.aloadN X159.here hx rfl (hb hby at_34) rfl rfl kz)) ?_
    obtain ⟨T160, X160, e160, st160⟩ := getS2 X159 hx hZ hown (host := "") (Or.inl (hw _ (List.mem_of_getElem? (i := 14) rfl))) Via.refl e159 P.2.2.2.2.2.2.2.2.1 (g := (mkF m 35 #[.val (.int p1), .val (.int (16 : Int32)), .val (.ref (w 15)), .unset, .unset, .unset] [(.ref (w 15))])) rfl (hb hby at_35)
    refine Goes.by st160 ?_
    refine Goes.by (fun _ kz => Jvm.RoadKit.acmp (g := (mkF m 38 #[.val (.int p1), .val (.int (16 : Int32)), .val (.ref (w 15)), .unset, .unset, .unset] [(.ref (w 4)), (.ref (w 15))])) X160 hx rfl rfl rfl (pc0 := 38) (pc' := 45) (same := false) rfl (hb hby at_38) rfl (decide_eq_false fun q => (Ne.symm (own_ne_4_15 P)) (Value.ref.inj q)) (by decide) (by decide) (XS.iconst X160.here hx rfl (hb hby at_45) (XS.istoreN X160.here hx rfl (hb hby at_46) rfl (l' := #[.val (.int p1), .val (.int (16 : Int32)), .val (.ref (w 15)), .val (.int (0 : Int32)), .unset, .unset]) rfl kz))) ?_
    show Goes p e below (T160.setTop (mkF m 47 #[.val (.int p1), .val (.int (16 : Int32)), .val (.ref (w 15)), .val (.int (0 : Int32)), .unset, .unset] [])) _
    refine Goes.by (fun _ kz => XS.aloadN X160.here hx rfl (hb hby at_47) rfl rfl kz) ?_
    obtain ⟨cq162, kq162, q162a, q162b, q162c⟩ := isOf hZ e160 P.2.2.2.2.2.2.2.2.2.2.2.2.2.2.2.2.2.2.2.2.2.2.2.2.2.2.2.2.2.2.2.1
    obtain ⟨_, _, ⟨T162, L162, k162, n162⟩, -, X162, ⟨Lc162, hQ162, l162, y162, z162⟩, st162⟩ := X160.virtualBack hx (y := (⟨"com/example/strict_credit/strictcredit/diameter/ResultCode", "code", "()I"⟩ : MethodName)) (z := (⟨"com/example/strict_credit/strictcredit/diameter/ResultCode", "code", "()I"⟩ : MethodName)) hown (mvT hZ (hw _ (List.mem_of_getElem? (i := 16) rfl))) (mvT hZ (hw _ (List.mem_of_getElem? (i := 17) rfl))) (notFace_of_selects (args := #[]) (mvT hZ (hw _ (List.mem_of_getElem? (i := 19) rfl)))) (mvT hZ (hw _ (List.mem_of_getElem? (i := 19) rfl))) (mvT hZ (hw _ (List.mem_of_getElem? (i := 18) rfl))) (by decide) (backOf (W := 0) (r2_49 l Z a0 hw [] h0 n0 Z0 w P) hZ (hw _ (List.mem_of_getElem? (i := 20) rfl)) (hw _ (List.mem_of_getElem? (i := 6) rfl)) (by decide) (by decide)) q162a q162c (g := (mkF m 48 #[.val (.int p1), .val (.int (16 : Int32)), .val (.ref (w 15)), .val (.int (0 : Int32)), .unset, .unset] [(.ref (w 15))])) rfl (by rw [hml]; rfl) (Steps.refl _) (argsL := []) (rest := []) (lenOf pd1 rfl) rfl (by show 2 * 0 + _ ≤ _; exact Nat.le_of_eq rfl) (hb hby at_48) (fun _ _ => ⟨rfl, e160, (by decide : 0 + 0 ≤ _), (by decide : 0 + 0 ≤ _)⟩)
    dsimp only [Pt.U, Pt.locs, Pt.cells, Pt.slots] at X162 l162 y162 z162 st162 hQ162
    subst l162 y162 z162
    obtain ⟨rfl, Nq162, e162⟩ := hQ162
    have N162 := Fr.app N156 Nq162
    refine Goes.tr st162 ?_
    refine Goes.by (fun _ kz => XS.istore X162.here hx rfl (hb hby at_51) rfl (l' := #[.val (.int p1), .val (.int (16 : Int32)), .val (.ref (w 15)), .val (.int (0 : Int32)), .val (.int (5014 : Int32)), .unset]) rfl (XS.iload X162.here hx rfl (hb hby at_53) rfl (XS.sipush X162.here hx rfl (hb hby at_55) kz))) ?_
    show Goes p e below (T162.setTop (mkF m 58 #[.val (.int p1), .val (.int (16 : Int32)), .val (.ref (w 15)), .val (.int (0 : Int32)), .val (.int (5014 : Int32)), .unset] [(.int (3000 : Int32)), (.int (5014 : Int32))])) _
    refine Goes.by (fun _ kz => XS.icmpNo X162.here hx rfl (hb hby at_58) rfl (flt (by decide : ¬ ((5014 : Int32) < (3000 : Int32)))).1 (XS.iload X162.here hx rfl (hb hby at_61) rfl (XS.sipush X162.here hx rfl (hb hby at_63) kz))) ?_
    show Goes p e below (T162.setTop (mkF m 66 #[.val (.int p1), .val (.int (16 : Int32)), .val (.ref (w 15)), .val (.int (0 : Int32)), .val (.int (5014 : Int32)), .unset] [(.int (3999 : Int32)), (.int (5014 : Int32))])) _
    refine Goes.by (fun _ kz => XS.icmpYes X162.here hx rfl (pc0 := 66) (pc' := 73) rfl (hb hby at_66) rfl (tlt (by decide : (3999 : Int32) < (5014 : Int32))).2.2.1 (by decide) (by decide) (XS.iconst X162.here hx rfl (hb hby at_73) (XS.istore X162.here hx rfl (hb hby at_74) rfl (l' := #[.val (.int p1), .val (.int (16 : Int32)), .val (.ref (w 15)), .val (.int (0 : Int32)), .val (.int (5014 : Int32)), .val (.int (0 : Int32))]) rfl kz))) ?_
    show Goes p e below (T162.setTop (mkF m 76 #[.val (.int p1), .val (.int (16 : Int32)), .val (.ref (w 15)), .val (.int (0 : Int32)), .val (.int (5014 : Int32)), .val (.int (0 : Int32))] [])) _
    refine Goes.by (fun _ kz => XS.aloadN X162.here hx rfl (hb hby at_76) rfl rfl kz) ?_
    obtain ⟨cq164, kq164, q164a, q164b, q164c⟩ := isOf hZ e162 P.2.2.2.2.2.2.2.2.2.2.2.2.2.2.2.2.2.2.2.2.2.2.2.2.2.2.2.2.2.2.2.1
    obtain ⟨_, _, ⟨T164, L164, k164, n164⟩, -, X164, ⟨Lc164, hQ164, l164, y164, z164⟩, st164⟩ := X162.virtualBack hx (y := (⟨"com/example/strict_credit/strictcredit/diameter/ResultCode", "isProtocolError", "()Z"⟩ : MethodName)) (z := (⟨"com/example/strict_credit/strictcredit/diameter/ResultCode", "isProtocolError", "()Z"⟩ : MethodName)) hown (mvT hZ (hw _ (List.mem_of_getElem? (i := 23) rfl))) (mvT hZ (hw _ (List.mem_of_getElem? (i := 24) rfl))) (notFace_of_selects (args := #[]) (mvT hZ (hw _ (List.mem_of_getElem? (i := 26) rfl)))) (mvT hZ (hw _ (List.mem_of_getElem? (i := 26) rfl))) (mvT hZ (hw _ (List.mem_of_getElem? (i := 25) rfl))) (by decide) (backOf (W := 0) (r3_50 l Z a0 hw [] h0 n0 Z0 w P) hZ (hw _ (List.mem_of_getElem? (i := 27) rfl)) (hw _ (List.mem_of_getElem? (i := 6) rfl)) (by decide) (by decide)) q164a q164c (g := (mkF m 77 #[.val (.int p1), .val (.int (16 : Int32)), .val (.ref (w 15)), .val (.int (0 : Int32)), .val (.int (5014 : Int32)), .val (.int (0 : Int32))] [(.ref (w 15))])) rfl (by rw [hml]; rfl) (Steps.refl _) (argsL := []) (rest := []) (lenOf pd2 rfl) rfl (by show 2 * 0 + _ ≤ _; exact Nat.le_of_eq rfl) (hb hby at_77) (fun _ _ => ⟨rfl, e162, (by decide : 0 + 0 ≤ _), (by decide : 0 + 0 ≤ _)⟩)
    dsimp only [Pt.U, Pt.locs, Pt.cells, Pt.slots] at X164 l164 y164 z164 st164 hQ164
    subst l164 y164 z164
    obtain ⟨rfl, Nq164, e164⟩ := hQ164
    have N164 := Fr.app N162 Nq164
    refine Goes.tr st164 ?_
    refine Goes.by (fun _ kz => XS.iloadN X164.here hx rfl (hb hby at_80) rfl (XS.icmpNo X164.here hx rfl (hb hby at_81) rfl (teq (by decide : (0 : Int32) = (0 : Int32))).2 (XS.iloadN X164.here hx rfl (hb hby at_84) rfl kz))) ?_
    show Goes p e below (T164.setTop (mkF m 85 #[.val (.int p1), .val (.int (16 : Int32)), .val (.ref (w 15)), .val (.int (0 : Int32)), .val (.int (5014 : Int32)), .val (.int (0 : Int32))] [(.int (0 : Int32))])) _
    refine Goes.by (fun _ kz => XS.iload X164.here hx rfl (hb hby at_85) rfl (XS.icmpNo X164.here hx rfl (hb hby at_87) rfl (teq (by decide : (0 : Int32) = (0 : Int32))).2 (XS.iconst X164.here hx rfl (hb hby at_90) kz))) ?_
    show Goes p e below (T164.setTop (mkF m 91 #[.val (.int p1), .val (.int (16 : Int32)), .val (.ref (w 15)), .val (.int (0 : Int32)), .val (.int (5014 : Int32)), .val (.int (0 : Int32))] [(.int (1 : Int32))])) _
    refine Goes.by (fun _ kz => XS.goto X164.here hx rfl (pc0 := 91) (pc' := 95) rfl (hb hby at_91) (by decide) (by decide) kz) ?_
    show Goes p e below (T164.setTop (mkF m 95 #[.val (.int p1), .val (.int (16 : Int32)), .val (.ref (w 15)), .val (.int (0 : Int32)), .val (.int (5014 : Int32)), .val (.int (0 : Int32))] [(.int (1 : Int32))])) _
    obtain ⟨fs, hr, hrun, hended, hW, hsame⟩ := X164.leave (v := some (.int (1 : Int32))) (fun h => by rw [Bd.returns] at h; cases h)
    exact ⟨_, _, retN X164 hx (t := .boolean) Bd.returns (by simp) (hb hby at_95) hr, hrun, hended, _, _, rfl, ⟨rfl, N164⟩, ⟨_, rfl⟩, hW, hsame.mono (by decide) (by decide)⟩
  · show Goes p e below (s₁.setTop (mkF m 8 #[.val (.int p1), .val (.int (17 : Int32)), .unset, .unset, .unset, .unset] [])) _
    refine Goes.by (fun _ kz => XS.iloadN X0.here hx rfl (hb hby at_8) rfl kz) ?_
    obtain ⟨_, _, ⟨T166, L166, k166, n166⟩, -, X166, ⟨Lc166, hQ166, l166, y166, z166⟩, st166⟩ := Jvm.LawKit.callS X0 hx (y := (⟨"com/example/strict_credit/strictcredit/diameter/ResultCodeIsProtocolErrorPinLaw", "pick", "(I)Lcom/example/strict_credit/strictcredit/diameter/ResultCode;"⟩ : MethodName)) hown (mvT hZ (hw _ (List.mem_of_getElem? (i := 1) rfl))) (mvT hZ (hw _ (List.mem_of_getElem? (i := 2) rfl))) (mvT hZ (hw _ (List.mem_of_getElem? (i := 3) rfl))) (mvT hZ (hw _ (List.mem_of_getElem? (i := 4) rfl))) (by decide) (backOf (W := 0) (r1_51 l Z a0 hw [] h0 n0 Z0 w P) hZ (hw _ (List.mem_of_getElem? (i := 4) rfl)) (hw _ (List.mem_of_getElem? (i := 3) rfl)) (by decide) (by decide)) (g := (mkF m 9 #[.val (.int p1), .val (.int (17 : Int32)), .unset, .unset, .unset, .unset] [(.int (17 : Int32))])) rfl (by rw [hml]; rfl) (argsL := [(.int (17 : Int32))]) (rest := []) (lenOf pd0 rfl) rfl (by show 2 * 0 + _ ≤ _; exact Nat.le_of_eq rfl) (hb hby at_9) (fun _ _ => ⟨rfl, e0, (by decide : 0 + 0 ≤ _), (by decide : 0 + 0 ≤ _)⟩)
    dsimp only [Pt.U, Pt.locs, Pt.cells, Pt.slots] at X166 l166 y166 z166 st166 hQ166
    subst l166 y166 z166
    obtain ⟨rfl, Nq166, e166⟩ := hQ166
    have N166 := Fr.app N0 Nq166
    refine Goes.by st166 ?_
    refine Goes.by (fun _ kz => XS.astoreN X166.here hx rfl (hb hby at_12) rfl rfl (l' := #[.val (.int p1), .val (.int (17 : Int32)), .val (.ref (w 14)), .unset, .unset, .unset]) rfl (XS.aloadN X166.here hx rfl (hb hby at_13) rfl rfl kz)) ?_
    obtain ⟨T167, X167, e167, st167⟩ := getS2 X166 hx hZ hown (host := "") (Or.inl (hw _ (List.mem_of_getElem? (i := 8) rfl))) Via.refl e166 P.2.2.1 (g := (mkF m 14 #[.val (.int p1), .val (.int (17 : Int32)), .val (.ref (w 14)), .unset, .unset, .unset] [(.ref (w 14))])) rfl (hb hby at_14)
    refine Goes.by st167 ?_
    refine Goes.by (fun _ kz => Jvm.RoadKit.acmp (g := (mkF m 17 #[.val (.int p1), .val (.int (17 : Int32)), .val (.ref (w 14)), .unset, .unset, .unset] [(.ref (w 1)), (.ref (w 14))])) X167 hx rfl rfl rfl (pc0 := 17) (pc' := 20) (same := false) rfl (hb hby at_17) rfl (decide_eq_false fun q => (Ne.symm (own_ne_1_14 P)) (Value.ref.inj q)) (by decide) (by decide) (XS.aloadN X167.here hx rfl (hb hby at_20) rfl rfl kz)) ?_
    obtain ⟨T168, X168, e168, st168⟩ := getS2 X167 hx hZ hown (host := "") (Or.inl (hw _ (List.mem_of_getElem? (i := 10) rfl))) Via.refl e167 P.2.2.2.2.1 (g := (mkF m 21 #[.val (.int p1), .val (.int (17 : Int32)), .val (.ref (w 14)), .unset, .unset, .unset] [(.ref (w 14))])) rfl (hb hby at_21)
    refine Goes.by st168 ?_
    refine Goes.by (fun _ kz => Jvm.RoadKit.acmp (g := (mkF m 24 #[.val (.int p1), .val (.int (17 : Int32)), .val (.ref (w 14)), .unset, .unset, .unset] [(.ref (w 2)), (.ref (w 14))])) X168 hx rfl rfl rfl (pc0 := 24) (pc' := 27) (same := false) rfl (hb hby at_24) rfl (decide_eq_false fun q => (Ne.symm (own_ne_2_14 P)) (Value.ref.inj q)) (by decide) (by decide) (XS.aloadN X168.here hx rfl (hb hby at_27) rfl rfl kz)) ?_
    obtain ⟨T169, X169, e169, st169⟩ := getS2 X168 hx hZ hown (host := "") (Or.inl (hw _ (List.mem_of_getElem? (i := 12) rfl))) Via.refl e168 P.2.2.2.2.2.2.1 (g := (mkF m 28 #[.val (.int p1), .val (.int (17 : Int32)), .val (.ref (w 14)), .unset, .unset, .unset] [(.ref (w 14))])) rfl (hb hby at_28)
    refine Goes.by st169 ?_
    refine Goes.by (fun _ kz => Jvm.RoadKit.acmp (g := (mkF m 31 #[.val (.int p1), .val (.int (17 : Int32)), .val (.ref (w 14)), .unset, .unset, .unset] [(.ref (w 3)), (.ref (w 14))])) X169 hx rfl rfl rfl (pc0 := 31) (pc' := 34) (same := false) rfl (hb hby at_31) rfl (decide_eq_false fun q => (Ne.symm (own_ne_3_14 P)) (Value.ref.inj q)) (by decide) (by decide) (XS.aloadN X169.here hx rfl (hb hby at_34) rfl rfl kz)) ?_
    obtain ⟨T170, X170, e170, st170⟩ := getS2 X169 hx hZ hown (host := "") (Or.inl (hw _ (List.mem_of_getElem? (i := 14) rfl))) Via.refl e169 P.2.2.2.2.2.2.2.2.1 (g := (mkF m 35 #[.val (.int p1), .val (.int (17 : Int32)), .val (.ref (w 14)), .unset, .unset, .unset] [(.ref (w 14))])) rfl (hb hby at_35)
    refine Goes.by st170 ?_
    refine Goes.by (fun _ kz => Jvm.RoadKit.acmp (g := (mkF m 38 #[.val (.int p1), .val (.int (17 : Int32)), .val (.ref (w 14)), .unset, .unset, .unset] [(.ref (w 4)), (.ref (w 14))])) X170 hx rfl rfl rfl (pc0 := 38) (pc' := 45) (same := false) rfl (hb hby at_38) rfl (decide_eq_false fun q => (Ne.symm (own_ne_4_14 P)) (Value.ref.inj q)) (by decide) (by decide) (XS.iconst X170.here hx rfl (hb hby at_45) (XS.istoreN X170.here hx rfl (hb hby at_46) rfl (l' := #[.val (.int p1), .val (.int (17 : Int32)), .val (.ref (w 14)), .val (.int (0 : Int32)), .unset, .unset]) rfl kz))) ?_
    show Goes p e below (T170.setTop (mkF m 47 #[.val (.int p1), .val (.int (17 : Int32)), .val (.ref (w 14)), .val (.int (0 : Int32)), .unset, .unset] [])) _
    refine Goes.by (fun _ kz => XS.aloadN X170.here hx rfl (hb hby at_47) rfl rfl kz) ?_
    obtain ⟨cq172, kq172, q172a, q172b, q172c⟩ := isOf hZ e170 P.2.2.2.2.2.2.2.2.2.2.2.2.2.2.2.2.2.2.2.2.2.2.2.2.2.2.2.2.2.1
    obtain ⟨_, _, ⟨T172, L172, k172, n172⟩, -, X172, ⟨Lc172, hQ172, l172, y172, z172⟩, st172⟩ := X170.virtualBack hx (y := (⟨"com/example/strict_credit/strictcredit/diameter/ResultCode", "code", "()I"⟩ : MethodName)) (z := (⟨"com/example/strict_credit/strictcredit/diameter/ResultCode", "code", "()I"⟩ : MethodName)) hown (mvT hZ (hw _ (List.mem_of_getElem? (i := 16) rfl))) (mvT hZ (hw _ (List.mem_of_getElem? (i := 17) rfl))) (notFace_of_selects (args := #[]) (mvT hZ (hw _ (List.mem_of_getElem? (i := 19) rfl)))) (mvT hZ (hw _ (List.mem_of_getElem? (i := 19) rfl))) (mvT hZ (hw _ (List.mem_of_getElem? (i := 18) rfl))) (by decide) (backOf (W := 0) (r2_52 l Z a0 hw [] h0 n0 Z0 w P) hZ (hw _ (List.mem_of_getElem? (i := 20) rfl)) (hw _ (List.mem_of_getElem? (i := 6) rfl)) (by decide) (by decide)) q172a q172c (g := (mkF m 48 #[.val (.int p1), .val (.int (17 : Int32)), .val (.ref (w 14)), .val (.int (0 : Int32)), .unset, .unset] [(.ref (w 14))])) rfl (by rw [hml]; rfl) (Steps.refl _) (argsL := []) (rest := []) (lenOf pd1 rfl) rfl (by show 2 * 0 + _ ≤ _; exact Nat.le_of_eq rfl) (hb hby at_48) (fun _ _ => ⟨rfl, e170, (by decide : 0 + 0 ≤ _), (by decide : 0 + 0 ≤ _)⟩)
    dsimp only [Pt.U, Pt.locs, Pt.cells, Pt.slots] at X172 l172 y172 z172 st172 hQ172
    subst l172 y172 z172
    obtain ⟨rfl, Nq172, e172⟩ := hQ172
    have N172 := Fr.app N166 Nq172
    refine Goes.tr st172 ?_
    refine Goes.by (fun _ kz => XS.istore X172.here hx rfl (hb hby at_51) rfl (l' := #[.val (.int p1), .val (.int (17 : Int32)), .val (.ref (w 14)), .val (.int (0 : Int32)), .val (.int (5015 : Int32)), .unset]) rfl (XS.iload X172.here hx rfl (hb hby at_53) rfl (XS.sipush X172.here hx rfl (hb hby at_55) kz))) ?_
    show Goes p e below (T172.setTop (mkF m 58 #[.val (.int p1), .val (.int (17 : Int32)), .val (.ref (w 14)), .val (.int (0 : Int32)), .val (.int (5015 : Int32)), .unset] [(.int (3000 : Int32)), (.int (5015 : Int32))])) _
    refine Goes.by (fun _ kz => XS.icmpNo X172.here hx rfl (hb hby at_58) rfl (flt (by decide : ¬ ((5015 : Int32) < (3000 : Int32)))).1 (XS.iload X172.here hx rfl (hb hby at_61) rfl (XS.sipush X172.here hx rfl (hb hby at_63) kz))) ?_
    show Goes p e below (T172.setTop (mkF m 66 #[.val (.int p1), .val (.int (17 : Int32)), .val (.ref (w 14)), .val (.int (0 : Int32)), .val (.int (5015 : Int32)), .unset] [(.int (3999 : Int32)), (.int (5015 : Int32))])) _
    refine Goes.by (fun _ kz => XS.icmpYes X172.here hx rfl (pc0 := 66) (pc' := 73) rfl (hb hby at_66) rfl (tlt (by decide : (3999 : Int32) < (5015 : Int32))).2.2.1 (by decide) (by decide) (XS.iconst X172.here hx rfl (hb hby at_73) (XS.istore X172.here hx rfl (hb hby at_74) rfl (l' := #[.val (.int p1), .val (.int (17 : Int32)), .val (.ref (w 14)), .val (.int (0 : Int32)), .val (.int (5015 : Int32)), .val (.int (0 : Int32))]) rfl kz))) ?_
    show Goes p e below (T172.setTop (mkF m 76 #[.val (.int p1), .val (.int (17 : Int32)), .val (.ref (w 14)), .val (.int (0 : Int32)), .val (.int (5015 : Int32)), .val (.int (0 : Int32))] [])) _
    refine Goes.by (fun _ kz => XS.aloadN X172.here hx rfl (hb hby at_76) rfl rfl kz) ?_
    obtain ⟨cq174, kq174, q174a, q174b, q174c⟩ := isOf hZ e172 P.2.2.2.2.2.2.2.2.2.2.2.2.2.2.2.2.2.2.2.2.2.2.2.2.2.2.2.2.2.1
    obtain ⟨_, _, ⟨T174, L174, k174, n174⟩, -, X174, ⟨Lc174, hQ174, l174, y174, z174⟩, st174⟩ := X172.virtualBack hx (y := (⟨"com/example/strict_credit/strictcredit/diameter/ResultCode", "isProtocolError", "()Z"⟩ : MethodName)) (z := (⟨"com/example/strict_credit/strictcredit/diameter/ResultCode", "isProtocolError", "()Z"⟩ : MethodName)) hown (mvT hZ (hw _ (List.mem_of_getElem? (i := 23) rfl))) (mvT hZ (hw _ (List.mem_of_getElem? (i := 24) rfl))) (notFace_of_selects (args := #[]) (mvT hZ (hw _ (List.mem_of_getElem? (i := 26) rfl)))) (mvT hZ (hw _ (List.mem_of_getElem? (i := 26) rfl))) (mvT hZ (hw _ (List.mem_of_getElem? (i := 25) rfl))) (by decide) (backOf (W := 0) (r3_53 l Z a0 hw [] h0 n0 Z0 w P) hZ (hw _ (List.mem_of_getElem? (i := 27) rfl)) (hw _ (List.mem_of_getElem? (i := 6) rfl)) (by decide) (by decide)) q174a q174c (g := (mkF m 77 #[.val (.int p1), .val (.int (17 : Int32)), .val (.ref (w 14)), .val (.int (0 : Int32)), .val (.int (5015 : Int32)), .val (.int (0 : Int32))] [(.ref (w 14))])) rfl (by rw [hml]; rfl) (Steps.refl _) (argsL := []) (rest := []) (lenOf pd2 rfl) rfl (by show 2 * 0 + _ ≤ _; exact Nat.le_of_eq rfl) (hb hby at_77) (fun _ _ => ⟨rfl, e172, (by decide : 0 + 0 ≤ _), (by decide : 0 + 0 ≤ _)⟩)
    dsimp only [Pt.U, Pt.locs, Pt.cells, Pt.slots] at X174 l174 y174 z174 st174 hQ174
    subst l174 y174 z174
    obtain ⟨rfl, Nq174, e174⟩ := hQ174
    have N174 := Fr.app N172 Nq174
    refine Goes.tr st174 ?_
    refine Goes.by (fun _ kz => XS.iloadN X174.here hx rfl (hb hby at_80) rfl (XS.icmpNo X174.here hx rfl (hb hby at_81) rfl (teq (by decide : (0 : Int32) = (0 : Int32))).2 (XS.iloadN X174.here hx rfl (hb hby at_84) rfl kz))) ?_
    show Goes p e below (T174.setTop (mkF m 85 #[.val (.int p1), .val (.int (17 : Int32)), .val (.ref (w 14)), .val (.int (0 : Int32)), .val (.int (5015 : Int32)), .val (.int (0 : Int32))] [(.int (0 : Int32))])) _
    refine Goes.by (fun _ kz => XS.iload X174.here hx rfl (hb hby at_85) rfl (XS.icmpNo X174.here hx rfl (hb hby at_87) rfl (teq (by decide : (0 : Int32) = (0 : Int32))).2 (XS.iconst X174.here hx rfl (hb hby at_90) kz))) ?_
    show Goes p e below (T174.setTop (mkF m 91 #[.val (.int p1), .val (.int (17 : Int32)), .val (.ref (w 14)), .val (.int (0 : Int32)), .val (.int (5015 : Int32)), .val (.int (0 : Int32))] [(.int (1 : Int32))])) _
    refine Goes.by (fun _ kz => XS.goto X174.here hx rfl (pc0 := 91) (pc' := 95) rfl (hb hby at_91) (by decide) (by decide) kz) ?_
    show Goes p e below (T174.setTop (mkF m 95 #[.val (.int p1), .val (.int (17 : Int32)), .val (.ref (w 14)), .val (.int (0 : Int32)), .val (.int (5015 : Int32)), .val (.int (0 : Int32))] [(.int (1 : Int32))])) _
    obtain ⟨fs, hr, hrun, hended, hW, hsame⟩ := X174.leave (v := some (.int (1 : Int32))) (fun h => by rw [Bd.returns] at h; cases h)
    exact ⟨_, _, retN X174 hx (t := .boolean) Bd.returns (by simp) (hb hby at_95) hr, hrun, hended, _, _, rfl, ⟨rfl, N174⟩, ⟨_, rfl⟩, hW, hsame.mono (by decide) (by decide)⟩
  · show Goes p e below (s₁.setTop (mkF m 8 #[.val (.int p1), .val (.int (18 : Int32)), .unset, .unset, .unset, .unset] [])) _
    refine Goes.by (fun _ kz => XS.iloadN X0.here hx rfl (hb hby at_8) rfl kz) ?_
    obtain ⟨_, _, ⟨T176, L176, k176, n176⟩, -, X176, ⟨Lc176, hQ176, l176, y176, z176⟩, st176⟩ := Jvm.LawKit.callS X0 hx (y := (⟨"com/example/strict_credit/strictcredit/diameter/ResultCodeIsProtocolErrorPinLaw", "pick", "(I)Lcom/example/strict_credit/strictcredit/diameter/ResultCode;"⟩ : MethodName)) hown (mvT hZ (hw _ (List.mem_of_getElem? (i := 1) rfl))) (mvT hZ (hw _ (List.mem_of_getElem? (i := 2) rfl))) (mvT hZ (hw _ (List.mem_of_getElem? (i := 3) rfl))) (mvT hZ (hw _ (List.mem_of_getElem? (i := 4) rfl))) (by decide) (backOf (W := 0) (r1_54 l Z a0 hw [] h0 n0 Z0 w P) hZ (hw _ (List.mem_of_getElem? (i := 4) rfl)) (hw _ (List.mem_of_getElem? (i := 3) rfl)) (by decide) (by decide)) (g := (mkF m 9 #[.val (.int p1), .val (.int (18 : Int32)), .unset, .unset, .unset, .unset] [(.int (18 : Int32))])) rfl (by rw [hml]; rfl) (argsL := [(.int (18 : Int32))]) (rest := []) (lenOf pd0 rfl) rfl (by show 2 * 0 + _ ≤ _; exact Nat.le_of_eq rfl) (hb hby at_9) (fun _ _ => ⟨rfl, e0, (by decide : 0 + 0 ≤ _), (by decide : 0 + 0 ≤ _)⟩)
    dsimp only [Pt.U, Pt.locs, Pt.cells, Pt.slots] at X176 l176 y176 z176 st176 hQ176
    subst l176 y176 z176
    obtain ⟨rfl, Nq176, e176⟩ := hQ176
    have N176 := Fr.app N0 Nq176
    refine Goes.by st176 ?_
    refine Goes.by (fun _ kz => XS.astoreN X176.here hx rfl (hb hby at_12) rfl rfl (l' := #[.val (.int p1), .val (.int (18 : Int32)), .val (.ref (w 19)), .unset, .unset, .unset]) rfl (XS.aloadN X176.here hx rfl (hb hby at_13) rfl rfl kz)) ?_
    obtain ⟨T177, X177, e177, st177⟩ := getS2 X176 hx hZ hown (host := "") (Or.inl (hw _ (List.mem_of_getElem? (i := 8) rfl))) Via.refl e176 P.2.2.1 (g := (mkF m 14 #[.val (.int p1), .val (.int (18 : Int32)), .val (.ref (w 19)), .unset, .unset, .unset] [(.ref (w 19))])) rfl (hb hby at_14)
    refine Goes.by st177 ?_
    refine Goes.by (fun _ kz => Jvm.RoadKit.acmp (g := (mkF m 17 #[.val (.int p1), .val (.int (18 : Int32)), .val (.ref (w 19)), .unset, .unset, .unset] [(.ref (w 1)), (.ref (w 19))])) X177 hx rfl rfl rfl (pc0 := 17) (pc' := 20) (same := false) rfl (hb hby at_17) rfl (decide_eq_false fun q => (Ne.symm (own_ne_1_19 P)) (Value.ref.inj q)) (by decide) (by decide) (XS.aloadN X177.here hx rfl (hb hby at_20) rfl rfl kz)) ?_
    obtain ⟨T178, X178, e178, st178⟩ := getS2 X177 hx hZ hown (host := "") (Or.inl (hw _ (List.mem_of_getElem? (i := 10) rfl))) Via.refl e177 P.2.2.2.2.1 (g := (mkF m 21 #[.val (.int p1), .val (.int (18 : Int32)), .val (.ref (w 19)), .unset, .unset, .unset] [(.ref (w 19))])) rfl (hb hby at_21)
    refine Goes.by st178 ?_
    refine Goes.by (fun _ kz => Jvm.RoadKit.acmp (g := (mkF m 24 #[.val (.int p1), .val (.int (18 : Int32)), .val (.ref (w 19)), .unset, .unset, .unset] [(.ref (w 2)), (.ref (w 19))])) X178 hx rfl rfl rfl (pc0 := 24) (pc' := 27) (same := false) rfl (hb hby at_24) rfl (decide_eq_false fun q => (Ne.symm (own_ne_2_19 P)) (Value.ref.inj q)) (by decide) (by decide) (XS.aloadN X178.here hx rfl (hb hby at_27) rfl rfl kz)) ?_
    obtain ⟨T179, X179, e179, st179⟩ := getS2 X178 hx hZ hown (host := "") (Or.inl (hw _ (List.mem_of_getElem? (i := 12) rfl))) Via.refl e178 P.2.2.2.2.2.2.1 (g := (mkF m 28 #[.val (.int p1), .val (.int (18 : Int32)), .val (.ref (w 19)), .unset, .unset, .unset] [(.ref (w 19))])) rfl (hb hby at_28)
    refine Goes.by st179 ?_
    refine Goes.by (fun _ kz => Jvm.RoadKit.acmp (g := (mkF m 31 #[.val (.int p1), .val (.int (18 : Int32)), .val (.ref (w 19)), .unset, .unset, .unset] [(.ref (w 3)), (.ref (w 19))])) X179 hx rfl rfl rfl (pc0 := 31) (pc' := 34) (same := false) rfl (hb hby at_31) rfl (decide_eq_false fun q => (Ne.symm (own_ne_3_19 P)) (Value.ref.inj q)) (by decide) (by decide) (XS.aloadN X179.here hx rfl (hb hby at_34) rfl rfl kz)) ?_
    obtain ⟨T180, X180, e180, st180⟩ := getS2 X179 hx hZ hown (host := "") (Or.inl (hw _ (List.mem_of_getElem? (i := 14) rfl))) Via.refl e179 P.2.2.2.2.2.2.2.2.1 (g := (mkF m 35 #[.val (.int p1), .val (.int (18 : Int32)), .val (.ref (w 19)), .unset, .unset, .unset] [(.ref (w 19))])) rfl (hb hby at_35)
    refine Goes.by st180 ?_
    refine Goes.by (fun _ kz => Jvm.RoadKit.acmp (g := (mkF m 38 #[.val (.int p1), .val (.int (18 : Int32)), .val (.ref (w 19)), .unset, .unset, .unset] [(.ref (w 4)), (.ref (w 19))])) X180 hx rfl rfl rfl (pc0 := 38) (pc' := 45) (same := false) rfl (hb hby at_38) rfl (decide_eq_false fun q => (Ne.symm (own_ne_4_19 P)) (Value.ref.inj q)) (by decide) (by decide) (XS.iconst X180.here hx rfl (hb hby at_45) (XS.istoreN X180.here hx rfl (hb hby at_46) rfl (l' := #[.val (.int p1), .val (.int (18 : Int32)), .val (.ref (w 19)), .val (.int (0 : Int32)), .unset, .unset]) rfl kz))) ?_
    show Goes p e below (T180.setTop (mkF m 47 #[.val (.int p1), .val (.int (18 : Int32)), .val (.ref (w 19)), .val (.int (0 : Int32)), .unset, .unset] [])) _
    refine Goes.by (fun _ kz => XS.aloadN X180.here hx rfl (hb hby at_47) rfl rfl kz) ?_
    obtain ⟨cq182, kq182, q182a, q182b, q182c⟩ := isOf hZ e180 P.2.2.2.2.2.2.2.2.2.2.2.2.2.2.2.2.2.2.2.2.2.2.2.2.2.2.2.2.2.2.2.2.2.2.2.2.2.2.2.1
    obtain ⟨_, _, ⟨T182, L182, k182, n182⟩, -, X182, ⟨Lc182, hQ182, l182, y182, z182⟩, st182⟩ := X180.virtualBack hx (y := (⟨"com/example/strict_credit/strictcredit/diameter/ResultCode", "code", "()I"⟩ : MethodName)) (z := (⟨"com/example/strict_credit/strictcredit/diameter/ResultCode", "code", "()I"⟩ : MethodName)) hown (mvT hZ (hw _ (List.mem_of_getElem? (i := 16) rfl))) (mvT hZ (hw _ (List.mem_of_getElem? (i := 17) rfl))) (notFace_of_selects (args := #[]) (mvT hZ (hw _ (List.mem_of_getElem? (i := 19) rfl)))) (mvT hZ (hw _ (List.mem_of_getElem? (i := 19) rfl))) (mvT hZ (hw _ (List.mem_of_getElem? (i := 18) rfl))) (by decide) (backOf (W := 0) (r2_55 l Z a0 hw [] h0 n0 Z0 w P) hZ (hw _ (List.mem_of_getElem? (i := 20) rfl)) (hw _ (List.mem_of_getElem? (i := 6) rfl)) (by decide) (by decide)) q182a q182c (g := (mkF m 48 #[.val (.int p1), .val (.int (18 : Int32)), .val (.ref (w 19)), .val (.int (0 : Int32)), .unset, .unset] [(.ref (w 19))])) rfl (by rw [hml]; rfl) (Steps.refl _) (argsL := []) (rest := []) (lenOf pd1 rfl) rfl (by show 2 * 0 + _ ≤ _; exact Nat.le_of_eq rfl) (hb hby at_48) (fun _ _ => ⟨rfl, e180, (by decide : 0 + 0 ≤ _), (by decide : 0 + 0 ≤ _)⟩)
    dsimp only [Pt.U, Pt.locs, Pt.cells, Pt.slots] at X182 l182 y182 z182 st182 hQ182
    subst l182 y182 z182
    obtain ⟨rfl, Nq182, e182⟩ := hQ182
    have N182 := Fr.app N176 Nq182
    refine Goes.tr st182 ?_
    refine Goes.by (fun _ kz => XS.istore X182.here hx rfl (hb hby at_51) rfl (l' := #[.val (.int p1), .val (.int (18 : Int32)), .val (.ref (w 19)), .val (.int (0 : Int32)), .val (.int (5030 : Int32)), .unset]) rfl (XS.iload X182.here hx rfl (hb hby at_53) rfl (XS.sipush X182.here hx rfl (hb hby at_55) kz))) ?_
    show Goes p e below (T182.setTop (mkF m 58 #[.val (.int p1), .val (.int (18 : Int32)), .val (.ref (w 19)), .val (.int (0 : Int32)), .val (.int (5030 : Int32)), .unset] [(.int (3000 : Int32)), (.int (5030 : Int32))])) _
    refine Goes.by (fun _ kz => XS.icmpNo X182.here hx rfl (hb hby at_58) rfl (flt (by decide : ¬ ((5030 : Int32) < (3000 : Int32)))).1 (XS.iload X182.here hx rfl (hb hby at_61) rfl (XS.sipush X182.here hx rfl (hb hby at_63) kz))) ?_
    show Goes p e below (T182.setTop (mkF m 66 #[.val (.int p1), .val (.int (18 : Int32)), .val (.ref (w 19)), .val (.int (0 : Int32)), .val (.int (5030 : Int32)), .unset] [(.int (3999 : Int32)), (.int (5030 : Int32))])) _
    refine Goes.by (fun _ kz => XS.icmpYes X182.here hx rfl (pc0 := 66) (pc' := 73) rfl (hb hby at_66) rfl (tlt (by decide : (3999 : Int32) < (5030 : Int32))).2.2.1 (by decide) (by decide) (XS.iconst X182.here hx rfl (hb hby at_73) (XS.istore X182.here hx rfl (hb hby at_74) rfl (l' := #[.val (.int p1), .val (.int (18 : Int32)), .val (.ref (w 19)), .val (.int (0 : Int32)), .val (.int (5030 : Int32)), .val (.int (0 : Int32))]) rfl kz))) ?_
    show Goes p e below (T182.setTop (mkF m 76 #[.val (.int p1), .val (.int (18 : Int32)), .val (.ref (w 19)), .val (.int (0 : Int32)), .val (.int (5030 : Int32)), .val (.int (0 : Int32))] [])) _
    refine Goes.by (fun _ kz => XS.aloadN X182.here hx rfl (hb hby at_76) rfl rfl kz) ?_
    obtain ⟨cq184, kq184, q184a, q184b, q184c⟩ := isOf hZ e182 P.2.2.2.2.2.2.2.2.2.2.2.2.2.2.2.2.2.2.2.2.2.2.2.2.2.2.2.2.2.2.2.2.2.2.2.2.2.2.2.1
    obtain ⟨_, _, ⟨T184, L184, k184, n184⟩, -, X184, ⟨Lc184, hQ184, l184, y184, z184⟩, st184⟩ := X182.virtualBack hx (y := (⟨"com/example/strict_credit/strictcredit/diameter/ResultCode", "isProtocolError", "()Z"⟩ : MethodName)) (z := (⟨"com/example/strict_credit/strictcredit/diameter/ResultCode", "isProtocolError", "()Z"⟩ : MethodName)) hown (mvT hZ (hw _ (List.mem_of_getElem? (i := 23) rfl))) (mvT hZ (hw _ (List.mem_of_getElem? (i := 24) rfl))) (notFace_of_selects (args := #[]) (mvT hZ (hw _ (List.mem_of_getElem? (i := 26) rfl)))) (mvT hZ (hw _ (List.mem_of_getElem? (i := 26) rfl))) (mvT hZ (hw _ (List.mem_of_getElem? (i := 25) rfl))) (by decide) (backOf (W := 0) (r3_56 l Z a0 hw [] h0 n0 Z0 w P) hZ (hw _ (List.mem_of_getElem? (i := 27) rfl)) (hw _ (List.mem_of_getElem? (i := 6) rfl)) (by decide) (by decide)) q184a q184c (g := (mkF m 77 #[.val (.int p1), .val (.int (18 : Int32)), .val (.ref (w 19)), .val (.int (0 : Int32)), .val (.int (5030 : Int32)), .val (.int (0 : Int32))] [(.ref (w 19))])) rfl (by rw [hml]; rfl) (Steps.refl _) (argsL := []) (rest := []) (lenOf pd2 rfl) rfl (by show 2 * 0 + _ ≤ _; exact Nat.le_of_eq rfl) (hb hby at_77) (fun _ _ => ⟨rfl, e182, (by decide : 0 + 0 ≤ _), (by decide : 0 + 0 ≤ _)⟩)
    dsimp only [Pt.U, Pt.locs, Pt.cells, Pt.slots] at X184 l184 y184 z184 st184 hQ184
    subst l184 y184 z184
    obtain ⟨rfl, Nq184, e184⟩ := hQ184
    have N184 := Fr.app N182 Nq184
    refine Goes.tr st184 ?_
    refine Goes.by (fun _ kz => XS.iloadN X184.here hx rfl (hb hby at_80) rfl (XS.icmpNo X184.here hx rfl (hb hby at_81) rfl (teq (by decide : (0 : Int32) = (0 : Int32))).2 (XS.iloadN X184.here hx rfl (hb hby at_84) rfl kz))) ?_
    show Goes p e below (T184.setTop (mkF m 85 #[.val (.int p1), .val (.int (18 : Int32)), .val (.ref (w 19)), .val (.int (0 : Int32)), .val (.int (5030 : Int32)), .val (.int (0 : Int32))] [(.int (0 : Int32))])) _
    refine Goes.by (fun _ kz => XS.iload X184.here hx rfl (hb hby at_85) rfl (XS.icmpNo X184.here hx rfl (hb hby at_87) rfl (teq (by decide : (0 : Int32) = (0 : Int32))).2 (XS.iconst X184.here hx rfl (hb hby at_90) kz))) ?_
    show Goes p e below (T184.setTop (mkF m 91 #[.val (.int p1), .val (.int (18 : Int32)), .val (.ref (w 19)), .val (.int (0 : Int32)), .val (.int (5030 : Int32)), .val (.int (0 : Int32))] [(.int (1 : Int32))])) _
    refine Goes.by (fun _ kz => XS.goto X184.here hx rfl (pc0 := 91) (pc' := 95) rfl (hb hby at_91) (by decide) (by decide) kz) ?_
    show Goes p e below (T184.setTop (mkF m 95 #[.val (.int p1), .val (.int (18 : Int32)), .val (.ref (w 19)), .val (.int (0 : Int32)), .val (.int (5030 : Int32)), .val (.int (0 : Int32))] [(.int (1 : Int32))])) _
    obtain ⟨fs, hr, hrun, hended, hW, hsame⟩ := X184.leave (v := some (.int (1 : Int32))) (fun h => by rw [Bd.returns] at h; cases h)
    exact ⟨_, _, retN X184 hx (t := .boolean) Bd.returns (by simp) (hb hby at_95) hr, hrun, hended, _, _, rfl, ⟨rfl, N184⟩, ⟨_, rfl⟩, hW, hsame.mono (by decide) (by decide)⟩
  · show Goes p e below (s₁.setTop (mkF m 8 #[.val (.int p1), .val (.int (19 : Int32)), .unset, .unset, .unset, .unset] [])) _
    refine Goes.by (fun _ kz => XS.iloadN X0.here hx rfl (hb hby at_8) rfl kz) ?_
    obtain ⟨_, _, ⟨T186, L186, k186, n186⟩, -, X186, ⟨Lc186, hQ186, l186, y186, z186⟩, st186⟩ := Jvm.LawKit.callS X0 hx (y := (⟨"com/example/strict_credit/strictcredit/diameter/ResultCodeIsProtocolErrorPinLaw", "pick", "(I)Lcom/example/strict_credit/strictcredit/diameter/ResultCode;"⟩ : MethodName)) hown (mvT hZ (hw _ (List.mem_of_getElem? (i := 1) rfl))) (mvT hZ (hw _ (List.mem_of_getElem? (i := 2) rfl))) (mvT hZ (hw _ (List.mem_of_getElem? (i := 3) rfl))) (mvT hZ (hw _ (List.mem_of_getElem? (i := 4) rfl))) (by decide) (backOf (W := 0) (r1_57 l Z a0 hw [] h0 n0 Z0 w P) hZ (hw _ (List.mem_of_getElem? (i := 4) rfl)) (hw _ (List.mem_of_getElem? (i := 3) rfl)) (by decide) (by decide)) (g := (mkF m 9 #[.val (.int p1), .val (.int (19 : Int32)), .unset, .unset, .unset, .unset] [(.int (19 : Int32))])) rfl (by rw [hml]; rfl) (argsL := [(.int (19 : Int32))]) (rest := []) (lenOf pd0 rfl) rfl (by show 2 * 0 + _ ≤ _; exact Nat.le_of_eq rfl) (hb hby at_9) (fun _ _ => ⟨rfl, e0, (by decide : 0 + 0 ≤ _), (by decide : 0 + 0 ≤ _)⟩)
    dsimp only [Pt.U, Pt.locs, Pt.cells, Pt.slots] at X186 l186 y186 z186 st186 hQ186
    subst l186 y186 z186
    obtain ⟨rfl, Nq186, e186⟩ := hQ186
    have N186 := Fr.app N0 Nq186
    refine Goes.by st186 ?_
    refine Goes.by (fun _ kz => XS.astoreN X186.here hx rfl (hb hby at_12) rfl rfl (l' := #[.val (.int p1), .val (.int (19 : Int32)), .val (.ref (w 11)), .unset, .unset, .unset]) rfl (XS.aloadN X186.here hx rfl (hb hby at_13) rfl rfl kz)) ?_
    obtain ⟨T187, X187, e187, st187⟩ := getS2 X186 hx hZ hown (host := "") (Or.inl (hw _ (List.mem_of_getElem? (i := 8) rfl))) Via.refl e186 P.2.2.1 (g := (mkF m 14 #[.val (.int p1), .val (.int (19 : Int32)), .val (.ref (w 11)), .unset, .unset, .unset] [(.ref (w 11))])) rfl (hb hby at_14)
    refine Goes.by st187 ?_
    refine Goes.by (fun _ kz => Jvm.RoadKit.acmp (g := (mkF m 17 #[.val (.int p1), .val (.int (19 : Int32)), .val (.ref (w 11)), .unset, .unset, .unset] [(.ref (w 1)), (.ref (w 11))])) X187 hx rfl rfl rfl (pc0 := 17) (pc' := 20) (same := false) rfl (hb hby at_17) rfl (decide_eq_false fun q => (Ne.symm (own_ne_1_11 P)) (Value.ref.inj q)) (by decide) (by decide) (XS.aloadN X187.here hx rfl (hb hby at_20) rfl rfl kz)) ?_
    obtain ⟨T188, X188, e188, st188⟩ := getS2 X187 hx hZ hown (host := "") (Or.inl (hw _ (List.mem_of_getElem? (i := 10) rfl))) Via.refl e187 P.2.2.2.2.1 (g := (mkF m 21 #[.val (.int p1), .val (.int (19 : Int32)), .val (.ref (w 11)), .unset, .unset, .unset] [(.ref (w 11))])) rfl (hb hby at_21)
    refine Goes.by st188 ?_
    refine Goes.by (fun _ kz => Jvm.RoadKit.acmp (g := (mkF m 24 #[.val (.int p1), .val (.int (19 : Int32)), .val (.ref (w 11)), .unset, .unset, .unset] [(.ref (w 2)), (.ref (w 11))])) X188 hx rfl rfl rfl (pc0 := 24) (pc' := 27) (same := false) rfl (hb hby at_24) rfl (decide_eq_false fun q => (Ne.symm (own_ne_2_11 P)) (Value.ref.inj q)) (by decide) (by decide) (XS.aloadN X188.here hx rfl (hb hby at_27) rfl rfl kz)) ?_
    obtain ⟨T189, X189, e189, st189⟩ := getS2 X188 hx hZ hown (host := "") (Or.inl (hw _ (List.mem_of_getElem? (i := 12) rfl))) Via.refl e188 P.2.2.2.2.2.2.1 (g := (mkF m 28 #[.val (.int p1), .val (.int (19 : Int32)), .val (.ref (w 11)), .unset, .unset, .unset] [(.ref (w 11))])) rfl (hb hby at_28)
    refine Goes.by st189 ?_
    refine Goes.by (fun _ kz => Jvm.RoadKit.acmp (g := (mkF m 31 #[.val (.int p1), .val (.int (19 : Int32)), .val (.ref (w 11)), .unset, .unset, .unset] [(.ref (w 3)), (.ref (w 11))])) X189 hx rfl rfl rfl (pc0 := 31) (pc' := 34) (same := false) rfl (hb hby at_31) rfl (decide_eq_false fun q => (Ne.symm (own_ne_3_11 P)) (Value.ref.inj q)) (by decide) (by decide) (XS.aloadN X189.here hx rfl (hb hby at_34) rfl rfl kz)) ?_
    obtain ⟨T190, X190, e190, st190⟩ := getS2 X189 hx hZ hown (host := "") (Or.inl (hw _ (List.mem_of_getElem? (i := 14) rfl))) Via.refl e189 P.2.2.2.2.2.2.2.2.1 (g := (mkF m 35 #[.val (.int p1), .val (.int (19 : Int32)), .val (.ref (w 11)), .unset, .unset, .unset] [(.ref (w 11))])) rfl (hb hby at_35)
    refine Goes.by st190 ?_
    refine Goes.by (fun _ kz => Jvm.RoadKit.acmp (g := (mkF m 38 #[.val (.int p1), .val (.int (19 : Int32)), .val (.ref (w 11)), .unset, .unset, .unset] [(.ref (w 4)), (.ref (w 11))])) X190 hx rfl rfl rfl (pc0 := 38) (pc' := 45) (same := false) rfl (hb hby at_38) rfl (decide_eq_false fun q => (Ne.symm (own_ne_4_11 P)) (Value.ref.inj q)) (by decide) (by decide) (XS.iconst X190.here hx rfl (hb hby at_45) (XS.istoreN X190.here hx rfl (hb hby at_46) rfl (l' := #[.val (.int p1), .val (.int (19 : Int32)), .val (.ref (w 11)), .val (.int (0 : Int32)), .unset, .unset]) rfl kz))) ?_
    show Goes p e below (T190.setTop (mkF m 47 #[.val (.int p1), .val (.int (19 : Int32)), .val (.ref (w 11)), .val (.int (0 : Int32)), .unset, .unset] [])) _
    refine Goes.by (fun _ kz => XS.aloadN X190.here hx rfl (hb hby at_47) rfl rfl kz) ?_
    obtain ⟨cq192, kq192, q192a, q192b, q192c⟩ := isOf hZ e190 P.2.2.2.2.2.2.2.2.2.2.2.2.2.2.2.2.2.2.2.2.2.2.2.1
    obtain ⟨_, _, ⟨T192, L192, k192, n192⟩, -, X192, ⟨Lc192, hQ192, l192, y192, z192⟩, st192⟩ := X190.virtualBack hx (y := (⟨"com/example/strict_credit/strictcredit/diameter/ResultCode", "code", "()I"⟩ : MethodName)) (z := (⟨"com/example/strict_credit/strictcredit/diameter/ResultCode", "code", "()I"⟩ : MethodName)) hown (mvT hZ (hw _ (List.mem_of_getElem? (i := 16) rfl))) (mvT hZ (hw _ (List.mem_of_getElem? (i := 17) rfl))) (notFace_of_selects (args := #[]) (mvT hZ (hw _ (List.mem_of_getElem? (i := 19) rfl)))) (mvT hZ (hw _ (List.mem_of_getElem? (i := 19) rfl))) (mvT hZ (hw _ (List.mem_of_getElem? (i := 18) rfl))) (by decide) (backOf (W := 0) (r2_58 l Z a0 hw [] h0 n0 Z0 w P) hZ (hw _ (List.mem_of_getElem? (i := 20) rfl)) (hw _ (List.mem_of_getElem? (i := 6) rfl)) (by decide) (by decide)) q192a q192c (g := (mkF m 48 #[.val (.int p1), .val (.int (19 : Int32)), .val (.ref (w 11)), .val (.int (0 : Int32)), .unset, .unset] [(.ref (w 11))])) rfl (by rw [hml]; rfl) (Steps.refl _) (argsL := []) (rest := []) (lenOf pd1 rfl) rfl (by show 2 * 0 + _ ≤ _; exact Nat.le_of_eq rfl) (hb hby at_48) (fun _ _ => ⟨rfl, e190, (by decide : 0 + 0 ≤ _), (by decide : 0 + 0 ≤ _)⟩)
    dsimp only [Pt.U, Pt.locs, Pt.cells, Pt.slots] at X192 l192 y192 z192 st192 hQ192
    subst l192 y192 z192
    obtain ⟨rfl, Nq192, e192⟩ := hQ192
    have N192 := Fr.app N186 Nq192
    refine Goes.tr st192 ?_
    refine Goes.by (fun _ kz => XS.istore X192.here hx rfl (hb hby at_51) rfl (l' := #[.val (.int p1), .val (.int (19 : Int32)), .val (.ref (w 11)), .val (.int (0 : Int32)), .val (.int (5031 : Int32)), .unset]) rfl (XS.iload X192.here hx rfl (hb hby at_53) rfl (XS.sipush X192.here hx rfl (hb hby at_55) kz))) ?_
    show Goes p e below (T192.setTop (mkF m 58 #[.val (.int p1), .val (.int (19 : Int32)), .val (.ref (w 11)), .val (.int (0 : Int32)), .val (.int (5031 : Int32)), .unset] [(.int (3000 : Int32)), (.int (5031 : Int32))])) _
    refine Goes.by (fun _ kz => XS.icmpNo X192.here hx rfl (hb hby at_58) rfl (flt (by decide : ¬ ((5031 : Int32) < (3000 : Int32)))).1 (XS.iload X192.here hx rfl (hb hby at_61) rfl (XS.sipush X192.here hx rfl (hb hby at_63) kz))) ?_
    show Goes p e below (T192.setTop (mkF m 66 #[.val (.int p1), .val (.int (19 : Int32)), .val (.ref (w 11)), .val (.int (0 : Int32)), .val (.int (5031 : Int32)), .unset] [(.int (3999 : Int32)), (.int (5031 : Int32))])) _
    refine Goes.by (fun _ kz => XS.icmpYes X192.here hx rfl (pc0 := 66) (pc' := 73) rfl (hb hby at_66) rfl (tlt (by decide : (3999 : Int32) < (5031 : Int32))).2.2.1 (by decide) (by decide) (XS.iconst X192.here hx rfl (hb hby at_73) (XS.istore X192.here hx rfl (hb hby at_74) rfl (l' := #[.val (.int p1), .val (.int (19 : Int32)), .val (.ref (w 11)), .val (.int (0 : Int32)), .val (.int (5031 : Int32)), .val (.int (0 : Int32))]) rfl kz))) ?_
    show Goes p e below (T192.setTop (mkF m 76 #[.val (.int p1), .val (.int (19 : Int32)), .val (.ref (w 11)), .val (.int (0 : Int32)), .val (.int (5031 : Int32)), .val (.int (0 : Int32))] [])) _
    refine Goes.by (fun _ kz => XS.aloadN X192.here hx rfl (hb hby at_76) rfl rfl kz) ?_
    obtain ⟨cq194, kq194, q194a, q194b, q194c⟩ := isOf hZ e192 P.2.2.2.2.2.2.2.2.2.2.2.2.2.2.2.2.2.2.2.2.2.2.2.1
    obtain ⟨_, _, ⟨T194, L194, k194, n194⟩, -, X194, ⟨Lc194, hQ194, l194, y194, z194⟩, st194⟩ := X192.virtualBack hx (y := (⟨"com/example/strict_credit/strictcredit/diameter/ResultCode", "isProtocolError", "()Z"⟩ : MethodName)) (z := (⟨"com/example/strict_credit/strictcredit/diameter/ResultCode", "isProtocolError", "()Z"⟩ : MethodName)) hown (mvT hZ (hw _ (List.mem_of_getElem? (i := 23) rfl))) (mvT hZ (hw _ (List.mem_of_getElem? (i := 24) rfl))) (notFace_of_selects (args := #[]) (mvT hZ (hw _ (List.mem_of_getElem? (i := 26) rfl)))) (mvT hZ (hw _ (List.mem_of_getElem? (i := 26) rfl))) (mvT hZ (hw _ (List.mem_of_getElem? (i := 25) rfl))) (by decide) (backOf (W := 0) (r3_59 l Z a0 hw [] h0 n0 Z0 w P) hZ (hw _ (List.mem_of_getElem? (i := 27) rfl)) (hw _ (List.mem_of_getElem? (i := 6) rfl)) (by decide) (by decide)) q194a q194c (g := (mkF m 77 #[.val (.int p1), .val (.int (19 : Int32)), .val (.ref (w 11)), .val (.int (0 : Int32)), .val (.int (5031 : Int32)), .val (.int (0 : Int32))] [(.ref (w 11))])) rfl (by rw [hml]; rfl) (Steps.refl _) (argsL := []) (rest := []) (lenOf pd2 rfl) rfl (by show 2 * 0 + _ ≤ _; exact Nat.le_of_eq rfl) (hb hby at_77) (fun _ _ => ⟨rfl, e192, (by decide : 0 + 0 ≤ _), (by decide : 0 + 0 ≤ _)⟩)
    dsimp only [Pt.U, Pt.locs, Pt.cells, Pt.slots] at X194 l194 y194 z194 st194 hQ194
    subst l194 y194 z194
    obtain ⟨rfl, Nq194, e194⟩ := hQ194
    have N194 := Fr.app N192 Nq194
    refine Goes.tr st194 ?_
    refine Goes.by (fun _ kz => XS.iloadN X194.here hx rfl (hb hby at_80) rfl (XS.icmpNo X194.here hx rfl (hb hby at_81) rfl (teq (by decide : (0 : Int32) = (0 : Int32))).2 (XS.iloadN X194.here hx rfl (hb hby at_84) rfl kz))) ?_
    show Goes p e below (T194.setTop (mkF m 85 #[.val (.int p1), .val (.int (19 : Int32)), .val (.ref (w 11)), .val (.int (0 : Int32)), .val (.int (5031 : Int32)), .val (.int (0 : Int32))] [(.int (0 : Int32))])) _
    refine Goes.by (fun _ kz => XS.iload X194.here hx rfl (hb hby at_85) rfl (XS.icmpNo X194.here hx rfl (hb hby at_87) rfl (teq (by decide : (0 : Int32) = (0 : Int32))).2 (XS.iconst X194.here hx rfl (hb hby at_90) kz))) ?_
    show Goes p e below (T194.setTop (mkF m 91 #[.val (.int p1), .val (.int (19 : Int32)), .val (.ref (w 11)), .val (.int (0 : Int32)), .val (.int (5031 : Int32)), .val (.int (0 : Int32))] [(.int (1 : Int32))])) _
    refine Goes.by (fun _ kz => XS.goto X194.here hx rfl (pc0 := 91) (pc' := 95) rfl (hb hby at_91) (by decide) (by decide) kz) ?_
    show Goes p e below (T194.setTop (mkF m 95 #[.val (.int p1), .val (.int (19 : Int32)), .val (.ref (w 11)), .val (.int (0 : Int32)), .val (.int (5031 : Int32)), .val (.int (0 : Int32))] [(.int (1 : Int32))])) _
    obtain ⟨fs, hr, hrun, hended, hW, hsame⟩ := X194.leave (v := some (.int (1 : Int32))) (fun h => by rw [Bd.returns] at h; cases h)
    exact ⟨_, _, retN X194 hx (t := .boolean) Bd.returns (by simp) (hb hby at_95) hr, hrun, hended, _, _, rfl, ⟨rfl, N194⟩, ⟨_, rfl⟩, hW, hsame.mono (by decide) (by decide)⟩
set_option maxRecDepth 65536 in
set_option maxHeartbeats 40000000 in
theorem comes_1 {Post : Tables → Env → Array Value → State → Outcome → State → Prop} (hpost : ∀ tb e args s v u, (limb_1_1.after args s (.returned v) u = true ∧ limb_1_2.after args s (.returned v) u = true ∧ True) → FrameEnd s (.returned v) u (Jvm.fieldLocs frame_1_writes args s ++ Jvm.arrayLocs frame_1_arrays args s ++ Jvm.staticLocs frame_1_statics s) 0 0 → Post tb e args s (.returned v) u) :
    ArmFor flags0 classFile x code maxLocals ret World_1 tables_1 room_1 Calls_1 rest_1 Pre_1 Post := by
  intro l hfl _ _ p e ha hc hk s m args below hf hA hF happ hP
  obtain ⟨hcalls, hrest, hpre⟩ := hP
  obtain ⟨-, -, -, hnamed, -, -, -, hat⟩ := (Spec.applies_iff hf).mp happ
  obtain ⟨hg, hn⟩ := and_e (Cond.before_iff.mp (show (Jvm.Cond.and given_1 narrow_1).before args s = true from hpre))
  obtain ⟨a1, b1⟩ := and_e hg
  obtain ⟨w0, rfl⟩ : ∃ w0 : Value, args = #[w0] := by
    have hs : args.size = 1 := by simpa [Cond.value, given_1] using a1
    obtain ⟨L⟩ := args
    match L, hs with
    | [w0], _ => exact ⟨w0, rfl⟩
  have hw := fun d (hd : d ∈ tables_1) => atoms_spec (ws := Jvm.Cond.code x code maxLocals ret :: tables_1) hat d (List.mem_cons_of_mem _ hd)
  obtain ⟨i0, ei0⟩ := is_v b1
  obtain rfl : w0 = (.int i0) := Option.some.inj ei0
  obtain ⟨q0, t0⟩ := and_e hn
  obtain ⟨q1, t1⟩ := and_e t0
  obtain ⟨q2, t2⟩ := and_e t1
  obtain ⟨q3, t3⟩ := and_e t2
  obtain ⟨q4, t4⟩ := and_e t3
  obtain ⟨q5, t5⟩ := and_e t4
  obtain ⟨q6, t6⟩ := and_e t5
  obtain ⟨q7, t7⟩ := and_e t6
  obtain ⟨q8, t8⟩ := and_e t7
  obtain ⟨q9, t9⟩ := and_e t8
  obtain ⟨q10, t10⟩ := and_e t9
  obtain ⟨q11, t11⟩ := and_e t10
  obtain ⟨q12, t12⟩ := and_e t11
  obtain ⟨q13, t13⟩ := and_e t12
  obtain ⟨q14, t14⟩ := and_e t13
  obtain ⟨q15, t15⟩ := and_e t14
  obtain ⟨q16, t16⟩ := and_e t15
  obtain ⟨q17, t17⟩ := and_e t16
  obtain ⟨q18, t18⟩ := and_e t17
  obtain ⟨q19, t19⟩ := and_e t18
  obtain ⟨q20, t20⟩ := and_e t19
  obtain ⟨q21, t21⟩ := and_e t20
  obtain ⟨q22, t22⟩ := and_e t21
  obtain ⟨q23, t23⟩ := and_e t22
  obtain ⟨q24, t24⟩ := and_e t23
  obtain ⟨q25, t25⟩ := and_e t24
  obtain ⟨q26, t26⟩ := and_e t25
  obtain ⟨q27, t27⟩ := and_e t26
  obtain ⟨q28, t28⟩ := and_e t27
  obtain ⟨q29, t29⟩ := and_e t28
  obtain ⟨q30, t30⟩ := and_e t29
  obtain ⟨q31, t31⟩ := and_e t30
  obtain ⟨q32, t32⟩ := and_e t31
  obtain ⟨q33, t33⟩ := and_e t32
  obtain ⟨q34, t34⟩ := and_e t33
  obtain ⟨q35, t35⟩ := and_e t34
  obtain ⟨q36, t36⟩ := and_e t35
  obtain ⟨q37, t37⟩ := and_e t36
  obtain ⟨q38, t38⟩ := and_e t37
  obtain ⟨q39, t39⟩ := and_e t38
  obtain ⟨q40, t40⟩ := and_e t39
  obtain ⟨q41, t41⟩ := and_e t40
  obtain ⟨q42, t42⟩ := and_e t41
  obtain ⟨q43, t43⟩ := and_e t42
  obtain ⟨q44, t44⟩ := and_e t43
  obtain ⟨q45, t45⟩ := and_e t44
  obtain ⟨q46, t46⟩ := and_e t45
  obtain ⟨q47, t47⟩ := and_e t46
  obtain ⟨q48, t48⟩ := and_e t47
  obtain ⟨q49, t49⟩ := and_e t48
  obtain ⟨q50, t50⟩ := and_e t49
  obtain ⟨q51, t51⟩ := and_e t50
  obtain ⟨q52, t52⟩ := and_e t51
  obtain ⟨q53, t53⟩ := and_e t52
  obtain ⟨q54, t54⟩ := and_e t53
  obtain ⟨q55, t55⟩ := and_e t54
  obtain ⟨q56, t56⟩ := and_e t55
  obtain ⟨q57, t57⟩ := and_e t56
  obtain ⟨q58, t58⟩ := and_e t57
  have q59 := t58
  obtain ⟨v0, ev0⟩ := exa_v q0
  have S0 := Sta.start ev0 (Or.inr ⟨(hw _ (List.mem_of_getElem? (i := 6) rfl)), (hw _ (List.mem_of_getElem? (i := 7) rfl))⟩)
  have E0 := Exa.start ev0 q0
  obtain ⟨v1, ev1⟩ := exa_v q1
  have S1 := Sta.start ev1 (Or.inr ⟨(hw _ (List.mem_of_getElem? (i := 6) rfl)), (hw _ (List.mem_of_getElem? (i := 9) rfl))⟩)
  have E1 := Exa.start ev1 q1
  obtain ⟨v2, ev2⟩ := exa_v q4
  have S2 := Sta.start ev2 (Or.inr ⟨(hw _ (List.mem_of_getElem? (i := 6) rfl)), (hw _ (List.mem_of_getElem? (i := 11) rfl))⟩)
  have E2 := Exa.start ev2 q4
  obtain ⟨v3, ev3⟩ := exa_v q6
  have S3 := Sta.start ev3 (Or.inr ⟨(hw _ (List.mem_of_getElem? (i := 6) rfl)), (hw _ (List.mem_of_getElem? (i := 13) rfl))⟩)
  have E3 := Exa.start ev3 q6
  obtain ⟨v4, ev4⟩ := exa_v q8
  have S4 := Sta.start ev4 (Or.inr ⟨(hw _ (List.mem_of_getElem? (i := 6) rfl)), (hw _ (List.mem_of_getElem? (i := 15) rfl))⟩)
  have E4 := Exa.start ev4 q8
  obtain ⟨v5, ev5⟩ := exa_v q12
  have S5 := Sta.start ev5 (Or.inr ⟨(hw _ (List.mem_of_getElem? (i := 6) rfl)), (hw _ (List.mem_of_getElem? (i := 29) rfl))⟩)
  have E5 := Exa.start ev5 q12
  obtain ⟨v6, ev6⟩ := exa_v q15
  have S6 := Sta.start ev6 (Or.inr ⟨(hw _ (List.mem_of_getElem? (i := 6) rfl)), (hw _ (List.mem_of_getElem? (i := 31) rfl))⟩)
  have E6 := Exa.start ev6 q15
  obtain ⟨v7, ev7⟩ := exa_v q18
  have S7 := Sta.start ev7 (Or.inr ⟨(hw _ (List.mem_of_getElem? (i := 6) rfl)), (hw _ (List.mem_of_getElem? (i := 33) rfl))⟩)
  have E7 := Exa.start ev7 q18
  obtain ⟨v8, ev8⟩ := exa_v q21
  have S8 := Sta.start ev8 (Or.inr ⟨(hw _ (List.mem_of_getElem? (i := 6) rfl)), (hw _ (List.mem_of_getElem? (i := 35) rfl))⟩)
  have E8 := Exa.start ev8 q21
  obtain ⟨v9, ev9⟩ := exa_v q25
  have S9 := Sta.start ev9 (Or.inr ⟨(hw _ (List.mem_of_getElem? (i := 6) rfl)), (hw _ (List.mem_of_getElem? (i := 37) rfl))⟩)
  have E9 := Exa.start ev9 q25
  obtain ⟨v10, ev10⟩ := exa_v q28
  have S10 := Sta.start ev10 (Or.inr ⟨(hw _ (List.mem_of_getElem? (i := 6) rfl)), (hw _ (List.mem_of_getElem? (i := 39) rfl))⟩)
  have E10 := Exa.start ev10 q28
  obtain ⟨v11, ev11⟩ := exa_v q31
  have S11 := Sta.start ev11 (Or.inr ⟨(hw _ (List.mem_of_getElem? (i := 6) rfl)), (hw _ (List.mem_of_getElem? (i := 41) rfl))⟩)
  have E11 := Exa.start ev11 q31
  obtain ⟨v12, ev12⟩ := exa_v q34
  have S12 := Sta.start ev12 (Or.inr ⟨(hw _ (List.mem_of_getElem? (i := 6) rfl)), (hw _ (List.mem_of_getElem? (i := 43) rfl))⟩)
  have E12 := Exa.start ev12 q34
  obtain ⟨v13, ev13⟩ := exa_v q37
  have S13 := Sta.start ev13 (Or.inr ⟨(hw _ (List.mem_of_getElem? (i := 6) rfl)), (hw _ (List.mem_of_getElem? (i := 45) rfl))⟩)
  have E13 := Exa.start ev13 q37
  obtain ⟨v14, ev14⟩ := exa_v q40
  have S14 := Sta.start ev14 (Or.inr ⟨(hw _ (List.mem_of_getElem? (i := 6) rfl)), (hw _ (List.mem_of_getElem? (i := 47) rfl))⟩)
  have E14 := Exa.start ev14 q40
  obtain ⟨v15, ev15⟩ := exa_v q43
  have S15 := Sta.start ev15 (Or.inr ⟨(hw _ (List.mem_of_getElem? (i := 6) rfl)), (hw _ (List.mem_of_getElem? (i := 49) rfl))⟩)
  have E15 := Exa.start ev15 q43
  obtain ⟨v16, ev16⟩ := exa_v q46
  have S16 := Sta.start ev16 (Or.inr ⟨(hw _ (List.mem_of_getElem? (i := 6) rfl)), (hw _ (List.mem_of_getElem? (i := 51) rfl))⟩)
  have E16 := Exa.start ev16 q46
  obtain ⟨v17, ev17⟩ := exa_v q51
  have S17 := Sta.start ev17 (Or.inr ⟨(hw _ (List.mem_of_getElem? (i := 6) rfl)), (hw _ (List.mem_of_getElem? (i := 53) rfl))⟩)
  have E17 := Exa.start ev17 q51
  obtain ⟨v18, ev18⟩ := exa_v q54
  have S18 := Sta.start ev18 (Or.inr ⟨(hw _ (List.mem_of_getElem? (i := 6) rfl)), (hw _ (List.mem_of_getElem? (i := 55) rfl))⟩)
  have E18 := Exa.start ev18 q54
  obtain ⟨v19, ev19⟩ := exa_v q57
  have S19 := Sta.start ev19 (Or.inr ⟨(hw _ (List.mem_of_getElem? (i := 6) rfl)), (hw _ (List.mem_of_getElem? (i := 57) rfl))⟩)
  have E19 := Exa.start ev19 q57
  have F2 := own_fldI ev0 q2
  have F3 := own_fldI ev1 q3
  have F5 := own_fldI ev2 q5
  have F7 := own_fldI ev3 q7
  have F9 := own_fldI ev4 q9
  have F10 := own_fldI ev0 q10
  have F11 := own_fldI ev2 q11
  have F13 := own_fldI ev5 q13
  have F14 := own_fldI ev5 q14
  have F16 := own_fldI ev6 q16
  have F17 := own_fldI ev6 q17
  have F19 := own_fldI ev7 q19
  have F20 := own_fldI ev7 q20
  have F22 := own_fldI ev8 q22
  have F23 := own_fldI ev8 q23
  have F24 := own_fldI ev1 q24
  have F26 := own_fldI ev9 q26
  have F27 := own_fldI ev9 q27
  have F29 := own_fldI ev10 q29
  have F30 := own_fldI ev10 q30
  have F32 := own_fldI ev11 q32
  have F33 := own_fldI ev11 q33
  have F35 := own_fldI ev12 q35
  have F36 := own_fldI ev12 q36
  have F38 := own_fldI ev13 q38
  have F39 := own_fldI ev13 q39
  have F41 := own_fldI ev14 q41
  have F42 := own_fldI ev14 q42
  have F44 := own_fldI ev15 q44
  have F45 := own_fldI ev15 q45
  have F47 := own_fldI ev16 q47
  have F48 := own_fldI ev16 q48
  have F49 := own_fldI ev4 q49
  have F50 := own_fldI ev3 q50
  have F52 := own_fldI ev17 q52
  have F53 := own_fldI ev17 q53
  have F55 := own_fldI ev18 q55
  have F56 := own_fldI ev18 q56
  have F58 := own_fldI ev19 q58
  have F59 := own_fldI ev19 q59
  have P : Pins s s.heap (fun i => [v0, v1, v2, v3, v4, v5, v6, v7, v8, v9, v10, v11, v12, v13, v14, v15, v16, v17, v18, v19].getD i 0) := ⟨S0, E0, S1, E1, S2, E2, S3, E3, S4, E4, S5, E5, S6, E6, S7, E7, S8, E8, S9, E9, S10, E10, S11, E11, S12, E12, S13, E13, S14, E14, S15, E15, S16, E16, S17, E17, S18, E18, S19, E19, F2, F3, F5, F7, F9, F10, F11, F13, F14, F16, F17, F19, F20, F22, F23, F24, F26, F27, F29, F30, F32, F33, F35, F36, F38, F39, F41, F42, F44, F45, F47, F48, F49, F50, F52, F53, F55, F56, F58, F59⟩
  obtain ⟨n, o, h1, h2, h3, _, L, rfl, ⟨rfl, N⟩, hq⟩ := rm0 l s _ hw tables_1 s.heap s.heap.size (Nat.le_refl _) i0 (fun i => [v0, v1, v2, v3, v4, v5, v6, v7, v8, v9, v10, v11, v12, v13, v14, v15, v16, v17, v18, v19].getD i 0) P p e ha hc hk s m _ below hf ((Spec.applies_iff_loose hf).mp happ).1 ⟨rfl, State.Warmed39.refl s, rfl⟩ trivial
  refine ⟨n, _, h1, h2, h3, hpost _ _ _ _ _ _ ⟨Cond.after_iff.mpr rfl, Cond.after_iff.mpr (eq_i res_at (Term.int_eval (1)) rfl), trivial⟩ ⟨hq.1, hq.2.1, (hq.2.2.sift fun y hy => Or.inr (N y hy)).mono (by decide) (by decide)⟩⟩
theorem main_1_1 : Claimed_1_1 := comes_1 fun _ _ _ _ _ _ h hF => ⟨h.1, hF⟩
theorem main_1_2 : Claimed_1_2 := comes_1 fun _ _ _ _ _ _ h hF => ⟨h.2.1, hF⟩
end Jvm.Pilot.@@N@@
namespace Jvm.Pilot.@@N@@
open Jvm Jvm.ClassFile Sem Op Lib Jvm.Free Jvm.Stand Jvm.Pilot.@@N@@.Jvm.D
/-! MADE BY PROGRAM (witnessworld.py) out of the Statement's table words and the real class files: 12 classes; the members and pool entries that the words name. The judged class is class 1, her method 2. -/
namespace start1
open Jvm.ClassFile
def u (s : String) : CpInfo := .utf8 (stringToUtf16 s)
/-- a pool by its gaps: so many unusable entries, then the entry; so many at the end -/
def gap : Nat → List CpInfo → List CpInfo
  | 0, r => r
  | n + 1, r => .unusable :: gap n r
def poolList (es : List (Nat × CpInfo)) (last : Nat) : List CpInfo := es.foldr (fun e r => gap e.1 (e.2 :: r)) (gap last [])
def pool (es : List (Nat × CpInfo)) (last : Nat) : Array CpInfo := ⟨poolList es last⟩
def fileOf (pool : Array CpInfo) (this : Nat) (attrs : Array Attribute := #[]) (ms : Array MethodInfo := #[]) (fl : Nat := 33) (sup : Nat := 0) (ifs : Array Nat := #[]) (fds : Array FieldInfo := #[]) : ClassFile where
  minorVersion := 0
  majorVersion := 65
  constantPool := pool
  accessFlags := fl
  thisClass := this
  superClass := sup
  interfaces := ifs
  fields := fds
  methods := ms
  attributes := attrs
def plain (name : String) (sup : Option ClassId) : Class where
  name := name
  kind := .ordinary
  loader := none
  accessFlags := 33
  super := sup
  interfaces := #[]
  cf := none
  fields := #[]
  methods := #[]
  instanceTypes := #[]
  staticTypes := #[]
  resolved := #[]
  callSites := []
  init := .initialized
  statics := none
  mirror := none

def pool0 : Array CpInfo := pool [(5, u "<init>"), (0, u "()V"), (1, .class_ 10), (1, u "java/lang/Object")] 113

def k0m0 : Method := { name := "<init>", desc := "()V", sig := { parameters := [], returnType := none }, accessFlags := 1, code := none }
/-- java/lang/Object -/
def k0 : Class := { plain "java/lang/Object" none with
  accessFlags := 33
  interfaces := #[]
  cf := some (fileOf pool0 8 #[] #[{ accessFlags := 1, nameIndex := 5, descriptorIndex := 6, attributes := #[] }] 33 0 #[] #[])
  fields := #[]
  methods := #[k0m0]
  instanceTypes := #[]
  staticTypes := #[]
  resolved := Array.replicate 124 none
  statics := none }

def pool1 : Array CpInfo := pool [(2, .class_ 4), (1, u "java/lang/Object"), (0, u "<init>"), (0, u "()V"), (0, .fieldref 8 9), (0, .class_ 10), (0, .nameAndType 11 12), (0, u "com/example/strict_credit/strictcredit/diameter/ResultCode"), (0, u "SUCCESS"), (0, u "Lcom/example/strict_credit/strictcredit/diameter/ResultCode;"), (0, .fieldref 8 14), (0, .nameAndType 15 12), (0, u "LIMITED_SUCCESS"), (0, .fieldref 8 17), (0, .nameAndType 18 12), (0, u "COMMAND_UNSUPPORTED"), (0, .fieldref 8 20), (0, .nameAndType 21 12), (0, u "APPLICATION_UNSUPPORTED"), (0, .fieldref 8 23), (0, .nameAndType 24 12), (0, u "INVALID_HDR_BITS"), (0, .fieldref 8 26), (0, .nameAndType 27 12), (0, u "UNKNOWN_PEER"), (0, .fieldref 8 29), (0, .nameAndType 30 12), (0, u "END_USER_SERVICE_DENIED"), (0, .fieldref 8 32), (0, .nameAndType 33 12), (0, u "CREDIT_LIMIT_REACHED"), (0, .fieldref 8 35), (0, .nameAndType 36 12), (0, u "AVP_UNSUPPORTED"), (0, .fieldref 8 38), (0, .nameAndType 39 12), (0, u "UNKNOWN_SESSION_ID"), (0, .fieldref 8 41), (0, .nameAndType 42 12), (0, u "INVALID_AVP_VALUE"), (0, .fieldref 8 44), (0, .nameAndType 45 12), (0, u "MISSING_AVP"), (0, .fieldref 8 47), (0, .nameAndType 48 12), (0, u "AVP_OCCURS_TOO_MANY_TIMES"), (0, .fieldref 8 50), (0, .nameAndType 51 12), (0, u "NO_COMMON_APPLICATION"), (0, .fieldref 8 53), (0, .nameAndType 54 12), (0, u "UNSUPPORTED_VERSION"), (0, .fieldref 8 56), (0, .nameAndType 57 12), (0, u "UNABLE_TO_COMPLY"), (0, .fieldref 8 59), (0, .nameAndType 60 12), (0, u "INVALID_AVP_LENGTH"), (0, .fieldref 8 62), (0, .nameAndType 63 12), (0, u "INVALID_MESSAGE_LENGTH"), (0, .fieldref 8 65), (0, .nameAndType 66 12), (0, u "USER_UNKNOWN"), (0, .fieldref 8 68), (0, .nameAndType 69 12), (0, u "RATING_FAILED"), (0, .integer 2147483647), (0, .methodref 72 73), (0, .class_ 74), (0, .nameAndType 75 76), (0, u "com/example/strict_credit/strictcredit/diameter/ResultCodeIsProtocolErrorPinLaw"), (0, u "pick"), (0, u "(I)Lcom/example/strict_credit/strictcredit/diameter/ResultCode;"), (0, .methodref 8 78), (0, .nameAndType 79 80), (0, u "code"), (0, u "()I"), (0, .methodref 8 82), (0, .nameAndType 83 84), (0, u "isProtocolError"), (0, u "()Z"), (3, u "law"), (0, u "(I)Z")] 2

def k1m0 : Method := { name := "<init>", desc := "()V", sig := { parameters := [], returnType := none }, accessFlags := 1, code := none }
def k1c1 : Code := { maxStack := 2, maxLocals := 1, code := method_2_code, exceptionTable := #[], attributes := #[] }
def k1m1 : Method := { name := "pick", desc := "(I)Lcom/example/strict_credit/strictcredit/diameter/ResultCode;", sig := { parameters := [.int], returnType := some (.object "com/example/strict_credit/strictcredit/diameter/ResultCode") }, accessFlags := 10, code := some k1c1 }
def k1c2 : Code := { maxStack := 2, maxLocals := 6, code := code, exceptionTable := #[], attributes := #[] }
def k1m2 : Method := { name := "law", desc := "(I)Z", sig := { parameters := [.int], returnType := some .boolean }, accessFlags := 9, code := some k1c2 }
/-- com/example/strict_credit/strictcredit/diameter/ResultCodeIsProtocolErrorPinLaw -/
def k1 : Class := { plain "com/example/strict_credit/strictcredit/diameter/ResultCodeIsProtocolErrorPinLaw" (some 0) with
  accessFlags := 49
  interfaces := #[]
  cf := some (fileOf pool1 72 #[] #[{ accessFlags := 1, nameIndex := 5, descriptorIndex := 6, attributes := #[] }, { accessFlags := 10, nameIndex := 75, descriptorIndex := 76, attributes := #[] }, { accessFlags := 9, nameIndex := 88, descriptorIndex := 89, attributes := #[] }] 49 2 #[] #[])
  fields := #[]
  methods := #[k1m0, k1m1, k1m2]
  instanceTypes := #[]
  staticTypes := #[]
  resolved := Array.replicate 92 none
  statics := none }

def pool2 : Array CpInfo := pool [(1, .class_ 2), (0, u "java/lang/constant/Constable"), (0, .class_ 4), (0, u "java/lang/Object")] 6

/-- java/lang/constant/Constable -/
def k2 : Class := { plain "java/lang/constant/Constable" (some 0) with
  accessFlags := 1537
  interfaces := #[]
  cf := some (fileOf pool2 1 #[] #[] 1537 3 #[] #[])
  fields := #[]
  methods := #[]
  instanceTypes := #[]
  staticTypes := #[]
  resolved := Array.replicate 11 none
  statics := none }

def pool3 : Array CpInfo := pool [(1, .class_ 2), (0, u "java/lang/Comparable"), (0, .class_ 4), (0, u "java/lang/Object")] 7

/-- java/lang/Comparable -/
def k3 : Class := { plain "java/lang/Comparable" (some 0) with
  accessFlags := 1537
  interfaces := #[]
  cf := some (fileOf pool3 1 #[] #[] 1537 3 #[] #[])
  fields := #[]
  methods := #[]
  instanceTypes := #[]
  staticTypes := #[]
  resolved := Array.replicate 12 none
  statics := none }

def pool4 : Array CpInfo := pool [(1, .class_ 2), (0, u "java/io/Serializable"), (0, .class_ 4), (0, u "java/lang/Object")] 2

/-- java/io/Serializable -/
def k4 : Class := { plain "java/io/Serializable" (some 0) with
  accessFlags := 1537
  interfaces := #[]
  cf := some (fileOf pool4 1 #[] #[] 1537 3 #[] #[])
  fields := #[]
  methods := #[]
  instanceTypes := #[]
  staticTypes := #[]
  resolved := Array.replicate 7 none
  statics := none }

def pool5 : Array CpInfo := pool [(2, .class_ 4), (1, u "java/lang/Enum"), (0, u "name"), (0, u "Ljava/lang/String;"), (2, u "ordinal"), (0, u "I"), (1, .class_ 14), (1, u "java/lang/Object"), (4, u "hash"), (86, .class_ 108), (1, u "java/lang/Enum$EnumDesc"), (2, .class_ 112), (0, u "java/lang/constant/Constable"), (0, .class_ 114), (0, u "java/lang/Comparable"), (0, .class_ 116), (0, u "java/io/Serializable")] 87

/-- java/lang/Enum -/
def k5 : Class := { plain "java/lang/Enum" (some 0) with
  accessFlags := 1057
  interfaces := #[2, 3, 4]
  cf := some (fileOf pool5 2 #[.nestMembers #[106]] #[] 1057 12 #[111, 113, 115] #[{ accessFlags := 18, nameIndex := 5, descriptorIndex := 6, attributes := #[] }, { accessFlags := 18, nameIndex := 9, descriptorIndex := 10, attributes := #[] }, { accessFlags := 2, nameIndex := 19, descriptorIndex := 10, attributes := #[] }])
  fields := #[{ name := "name", type := (.object "java/lang/String"), accessFlags := 18, slot := 0, constantValue := 0 }, { name := "ordinal", type := .int, accessFlags := 18, slot := 1, constantValue := 0 }, { name := "hash", type := .int, accessFlags := 2, slot := 2, constantValue := 0 }]
  methods := #[]
  instanceTypes := #[(.object "java/lang/String"), .int, .int]
  staticTypes := #[]
  resolved := Array.replicate 204 none
  statics := none }

def pool6 : Array CpInfo := pool [(1, .class_ 2), (0, u "com/example/strict_credit/strictcredit/diameter/ResultCode"), (2, u "SUCCESS"), (0, u "Lcom/example/strict_credit/strictcredit/diameter/ResultCode;"), (2, u "LIMITED_SUCCESS"), (2, u "COMMAND_UNSUPPORTED"), (2, u "APPLICATION_UNSUPPORTED"), (2, u "INVALID_HDR_BITS"), (2, u "UNKNOWN_PEER"), (2, u "END_USER_SERVICE_DENIED"), (2, u "CREDIT_LIMIT_REACHED"), (2, u "AVP_UNSUPPORTED"), (2, u "UNKNOWN_SESSION_ID"), (2, u "INVALID_AVP_VALUE"), (2, u "MISSING_AVP"), (2, u "AVP_OCCURS_TOO_MANY_TIMES"), (2, u "NO_COMMON_APPLICATION"), (2, u "UNSUPPORTED_VERSION"), (2, u "UNABLE_TO_COMPLY"), (2, u "INVALID_AVP_LENGTH"), (2, u "INVALID_MESSAGE_LENGTH"), (2, u "USER_UNKNOWN"), (2, u "RATING_FAILED"), (2, u "$VALUES"), (0, u "[Lcom/example/strict_credit/strictcredit/diameter/ResultCode;"), (6, .class_ 76), (1, u "java/lang/Enum"), (6, .fieldref 1 84), (0, .nameAndType 85 86), (0, u "code"), (0, u "I"), (56, u "()I"), (3, u "isProtocolError"), (0, u "()Z")] 29

def k6c0 : Code := { maxStack := 1, maxLocals := 1, code := prog_39_method_4_code, exceptionTable := #[], attributes := #[] }
def k6m0 : Method := { name := "code", desc := "()I", sig := { parameters := [], returnType := some .int }, accessFlags := 1, code := some k6c0 }
def k6c1 : Code := { maxStack := 2, maxLocals := 1, code := prog_39_method_6_code, exceptionTable := #[], attributes := #[] }
def k6m1 : Method := { name := "isProtocolError", desc := "()Z", sig := { parameters := [], returnType := some .boolean }, accessFlags := 1, code := some k6c1 }
/-- com/example/strict_credit/strictcredit/diameter/ResultCode -/
def k6 : Class := { plain "com/example/strict_credit/strictcredit/diameter/ResultCode" (some 5) with
  accessFlags := 16433
  interfaces := #[]
  cf := some (fileOf pool6 1 #[] #[{ accessFlags := 1, nameIndex := 85, descriptorIndex := 143, attributes := #[] }, { accessFlags := 1, nameIndex := 147, descriptorIndex := 148, attributes := #[] }] 16433 74 #[] #[{ accessFlags := 16409, nameIndex := 5, descriptorIndex := 6, attributes := #[] }, { accessFlags := 16409, nameIndex := 9, descriptorIndex := 6, attributes := #[] }, { accessFlags := 16409, nameIndex := 12, descriptorIndex := 6, attributes := #[] }, { accessFlags := 16409, nameIndex := 15, descriptorIndex := 6, attributes := #[] }, { accessFlags := 16409, nameIndex := 18, descriptorIndex := 6, attributes := #[] }, { accessFlags := 16409, nameIndex := 21, descriptorIndex := 6, attributes := #[] }, { accessFlags := 16409, nameIndex := 24, descriptorIndex := 6, attributes := #[] }, { accessFlags := 16409, nameIndex := 27, descriptorIndex := 6, attributes := #[] }, { accessFlags := 16409, nameIndex := 30, descriptorIndex := 6, attributes := #[] }, { accessFlags := 16409, nameIndex := 33, descriptorIndex := 6, attributes := #[] }, { accessFlags := 16409, nameIndex := 36, descriptorIndex := 6, attributes := #[] }, { accessFlags := 16409, nameIndex := 39, descriptorIndex := 6, attributes := #[] }, { accessFlags := 16409, nameIndex := 42, descriptorIndex := 6, attributes := #[] }, { accessFlags := 16409, nameIndex := 45, descriptorIndex := 6, attributes := #[] }, { accessFlags := 16409, nameIndex := 48, descriptorIndex := 6, attributes := #[] }, { accessFlags := 16409, nameIndex := 51, descriptorIndex := 6, attributes := #[] }, { accessFlags := 16409, nameIndex := 54, descriptorIndex := 6, attributes := #[] }, { accessFlags := 16409, nameIndex := 57, descriptorIndex := 6, attributes := #[] }, { accessFlags := 16409, nameIndex := 60, descriptorIndex := 6, attributes := #[] }, { accessFlags := 16409, nameIndex := 63, descriptorIndex := 6, attributes := #[] }, { accessFlags := 18, nameIndex := 85, descriptorIndex := 86, attributes := #[] }, { accessFlags := 4122, nameIndex := 66, descriptorIndex := 67, attributes := #[] }])
  fields := #[{ name := "SUCCESS", type := (.object "com/example/strict_credit/strictcredit/diameter/ResultCode"), accessFlags := 16409, slot := 0, constantValue := 0 }, { name := "LIMITED_SUCCESS", type := (.object "com/example/strict_credit/strictcredit/diameter/ResultCode"), accessFlags := 16409, slot := 1, constantValue := 0 }, { name := "COMMAND_UNSUPPORTED", type := (.object "com/example/strict_credit/strictcredit/diameter/ResultCode"), accessFlags := 16409, slot := 2, constantValue := 0 }, { name := "APPLICATION_UNSUPPORTED", type := (.object "com/example/strict_credit/strictcredit/diameter/ResultCode"), accessFlags := 16409, slot := 3, constantValue := 0 }, { name := "INVALID_HDR_BITS", type := (.object "com/example/strict_credit/strictcredit/diameter/ResultCode"), accessFlags := 16409, slot := 4, constantValue := 0 }, { name := "UNKNOWN_PEER", type := (.object "com/example/strict_credit/strictcredit/diameter/ResultCode"), accessFlags := 16409, slot := 5, constantValue := 0 }, { name := "END_USER_SERVICE_DENIED", type := (.object "com/example/strict_credit/strictcredit/diameter/ResultCode"), accessFlags := 16409, slot := 6, constantValue := 0 }, { name := "CREDIT_LIMIT_REACHED", type := (.object "com/example/strict_credit/strictcredit/diameter/ResultCode"), accessFlags := 16409, slot := 7, constantValue := 0 }, { name := "AVP_UNSUPPORTED", type := (.object "com/example/strict_credit/strictcredit/diameter/ResultCode"), accessFlags := 16409, slot := 8, constantValue := 0 }, { name := "UNKNOWN_SESSION_ID", type := (.object "com/example/strict_credit/strictcredit/diameter/ResultCode"), accessFlags := 16409, slot := 9, constantValue := 0 }, { name := "INVALID_AVP_VALUE", type := (.object "com/example/strict_credit/strictcredit/diameter/ResultCode"), accessFlags := 16409, slot := 10, constantValue := 0 }, { name := "MISSING_AVP", type := (.object "com/example/strict_credit/strictcredit/diameter/ResultCode"), accessFlags := 16409, slot := 11, constantValue := 0 }, { name := "AVP_OCCURS_TOO_MANY_TIMES", type := (.object "com/example/strict_credit/strictcredit/diameter/ResultCode"), accessFlags := 16409, slot := 12, constantValue := 0 }, { name := "NO_COMMON_APPLICATION", type := (.object "com/example/strict_credit/strictcredit/diameter/ResultCode"), accessFlags := 16409, slot := 13, constantValue := 0 }, { name := "UNSUPPORTED_VERSION", type := (.object "com/example/strict_credit/strictcredit/diameter/ResultCode"), accessFlags := 16409, slot := 14, constantValue := 0 }, { name := "UNABLE_TO_COMPLY", type := (.object "com/example/strict_credit/strictcredit/diameter/ResultCode"), accessFlags := 16409, slot := 15, constantValue := 0 }, { name := "INVALID_AVP_LENGTH", type := (.object "com/example/strict_credit/strictcredit/diameter/ResultCode"), accessFlags := 16409, slot := 16, constantValue := 0 }, { name := "INVALID_MESSAGE_LENGTH", type := (.object "com/example/strict_credit/strictcredit/diameter/ResultCode"), accessFlags := 16409, slot := 17, constantValue := 0 }, { name := "USER_UNKNOWN", type := (.object "com/example/strict_credit/strictcredit/diameter/ResultCode"), accessFlags := 16409, slot := 18, constantValue := 0 }, { name := "RATING_FAILED", type := (.object "com/example/strict_credit/strictcredit/diameter/ResultCode"), accessFlags := 16409, slot := 19, constantValue := 0 }, { name := "code", type := .int, accessFlags := 18, slot := 3, constantValue := 0 }, { name := "$VALUES", type := (.array (.object "com/example/strict_credit/strictcredit/diameter/ResultCode")), accessFlags := 4122, slot := 20, constantValue := 0 }]
  methods := #[k6m0, k6m1]
  instanceTypes := #[(.object "java/lang/String"), .int, .int, .int]
  staticTypes := #[(.object "com/example/strict_credit/strictcredit/diameter/ResultCode"), (.object "com/example/strict_credit/strictcredit/diameter/ResultCode"), (.object "com/example/strict_credit/strictcredit/diameter/ResultCode"), (.object "com/example/strict_credit/strictcredit/diameter/ResultCode"), (.object "com/example/strict_credit/strictcredit/diameter/ResultCode"), (.object "com/example/strict_credit/strictcredit/diameter/ResultCode"), (.object "com/example/strict_credit/strictcredit/diameter/ResultCode"), (.object "com/example/strict_credit/strictcredit/diameter/ResultCode"), (.object "com/example/strict_credit/strictcredit/diameter/ResultCode"), (.object "com/example/strict_credit/strictcredit/diameter/ResultCode"), (.object "com/example/strict_credit/strictcredit/diameter/ResultCode"), (.object "com/example/strict_credit/strictcredit/diameter/ResultCode"), (.object "com/example/strict_credit/strictcredit/diameter/ResultCode"), (.object "com/example/strict_credit/strictcredit/diameter/ResultCode"), (.object "com/example/strict_credit/strictcredit/diameter/ResultCode"), (.object "com/example/strict_credit/strictcredit/diameter/ResultCode"), (.object "com/example/strict_credit/strictcredit/diameter/ResultCode"), (.object "com/example/strict_credit/strictcredit/diameter/ResultCode"), (.object "com/example/strict_credit/strictcredit/diameter/ResultCode"), (.object "com/example/strict_credit/strictcredit/diameter/ResultCode"), (.array (.object "com/example/strict_credit/strictcredit/diameter/ResultCode"))]
  resolved := Array.replicate 178 none
  statics := some 0 }

def pool7 : Array CpInfo := pool [(1, u "java/lang/Cloneable"), (0, .class_ 1), (0, u "java/lang/Object"), (0, .class_ 3)] 3

/-- java/lang/Cloneable -/
def k7 : Class := { plain "java/lang/Cloneable" (some 0) with
  accessFlags := 1537
  interfaces := #[]
  cf := some (fileOf pool7 2 #[] #[] 1537 4 #[] #[])
  fields := #[]
  methods := #[]
  instanceTypes := #[]
  staticTypes := #[]
  resolved := Array.replicate 8 none
  statics := none }

/-- the primitive byte -/
def k8 : Class := { plain "byte" none with kind := .primitive 'B', accessFlags := 0x411 }
/-- [B -/
def k9 : Class := { plain "[B" (some 0) with kind := .array 8 .byte, interfaces := #[7, 4], accessFlags := 1041 }

/-- the primitive int -/
def k10 : Class := { plain "int" none with kind := .primitive 'I', accessFlags := 0x411 }
/-- [I -/
def k11 : Class := { plain "[I" (some 0) with kind := .array 10 .int, interfaces := #[7, 4], accessFlags := 1041 }

def heap : Heap := #[{ cls := 6, slots := #[.ref 1, .ref 11, .ref 2, .ref 3, .ref 4, .ref 5, .ref 14, .ref 9, .ref 10, .ref 18, .ref 6, .ref 7, .ref 17, .ref 19, .ref 8, .ref 13, .ref 16, .ref 15, .ref 20, .ref 12, .null], vm := .statics 6 },
  { cls := 6, slots := #[.null, .int 0, .int 0, .int 2001], vm := .none },
  { cls := 6, slots := #[.null, .int 2, .int 0, .int 3001], vm := .none },
  { cls := 6, slots := #[.null, .int 3, .int 0, .int 3007], vm := .none },
  { cls := 6, slots := #[.null, .int 4, .int 0, .int 3008], vm := .none },
  { cls := 6, slots := #[.null, .int 5, .int 0, .int 3010], vm := .none },
  { cls := 6, slots := #[.null, .int 10, .int 0, .int 5004], vm := .none },
  { cls := 6, slots := #[.null, .int 11, .int 0, .int 5005], vm := .none },
  { cls := 6, slots := #[.null, .int 14, .int 0, .int 5011], vm := .none },
  { cls := 6, slots := #[.null, .int 7, .int 0, .int 4012], vm := .none },
  { cls := 6, slots := #[.null, .int 8, .int 0, .int 5001], vm := .none },
  { cls := 6, slots := #[.null, .int 1, .int 0, .int 2002], vm := .none },
  { cls := 6, slots := #[.null, .int 19, .int 0, .int 5031], vm := .none },
  { cls := 6, slots := #[.null, .int 15, .int 0, .int 5012], vm := .none },
  { cls := 6, slots := #[.null, .int 6, .int 0, .int 4010], vm := .none },
  { cls := 6, slots := #[.null, .int 17, .int 0, .int 5015], vm := .none },
  { cls := 6, slots := #[.null, .int 16, .int 0, .int 5014], vm := .none },
  { cls := 6, slots := #[.null, .int 12, .int 0, .int 5009], vm := .none },
  { cls := 6, slots := #[.null, .int 9, .int 0, .int 5002], vm := .none },
  { cls := 6, slots := #[.null, .int 13, .int 0, .int 5010], vm := .none },
  { cls := 6, slots := #[.null, .int 18, .int 0, .int 5030], vm := .none }]
def classes : Array Class := #[k0, k1, k2, k3, k4, k5, k6, k7, k8, k9, k10, k11]
def interned : List (Array UInt16 × Addr) := []
def slotsUsed : Nat := 101
def theMethod : MethodId := ⟨1, 2⟩
def args0 : Array Value := #[.int 5]
def aboutOver (below : List Frame) : State where
  vm := { classes := classes, interned := interned.toArray }
  heap := heap
  slotsUsed := slotsUsed
  threads := #[{ frames := .invoking theMethod args0 :: below }]
def below0 : List Frame := [.native { method := ⟨0, 0⟩, args := #[] }]
def about1 : State := aboutOver below0
def p0 : Program := .bare "" "" ""
def e0 : Env := launch0.env 0 0 0
theorem w_frames : about1.frames = Frame.invoking theMethod args0 :: below0 := rfl
set_option maxRecDepth 65536 in
theorem w_args : argsFit about1.vm theMethod args0 = true := by decide +kernel
set_option maxRecDepth 65536 in
theorem w_heap : heapFits about1 = true := by decide +kernel
set_option maxRecDepth 65536 in
theorem w_runnable : about1.curStatus? = some .runnable := by decide +kernel
set_option maxRecDepth 65536 in
theorem w_alone : about1.alone = true := by decide +kernel
set_option maxRecDepth 65536 in
theorem w_named : about1.methodNamed? x = some theMethod := by decide +kernel
set_option maxRecDepth 65536 in
theorem w_hears : about1.hears theMethod below0 = true := by decide +kernel
set_option maxRecDepth 65536 in
theorem w_ripe : about1.ripe theMethod args0 below0 = true := by decide +kernel
theorem w_running : about1.status = .running := rfl
set_option maxRecDepth 65536 in
theorem w_room : about1.hasRoom e0.platform room_1 = true :=
  launch0.hasRoom_least _ room_1 (by decide +kernel) (by decide +kernel) (by decide +kernel) (by decide +kernel) (by decide +kernel) (by decide +kernel)
theorem allAtoms_all (ts : List Jvm.Cond) (a : Array Jvm.Value) (st : Jvm.State) : (allAtoms ts).before a st = ts.all (fun c => c.before a st) := by
  induction ts with
  | nil => rfl
  | cons c t ih =>
    show (Jvm.Cond.and c (allAtoms t)).before a st = _
    rw [Jvm.Cond.before_and, ih, List.all_cons]
def words1 : List Jvm.Cond := Jvm.Cond.code x code maxLocals ret :: tables_1
/-- a 'code' word, met by the world's own term for the bytes: nothing is compared byte by byte -/
theorem code_word {y : MethodName} {bytes : ByteArray} {mx : Nat} {rt : Option FieldType} {a : Array Value} {s : State} {m : MethodId} {meth : Method} {c : Code} (h1 : s.methodNamed? y = some m) (h2 : s.vm.method? m = some meth) (h3 : meth.code = some c) (h4 : c.code = bytes)
    (h5 : (c.maxLocals == mx && c.exceptionTable.isEmpty && decide (c.maxStack ≤ mostOperands) && decide (meth.sig.returnType = rt) && !meth.locks && decide (parseMethodDescriptor y.desc = some meth.sig)) = true) : (Jvm.Cond.code y bytes mx rt).before a s = true := by
  simp only [Bool.and_eq_true, beq_iff_eq, Bool.not_eq_true', decide_eq_true_eq] at h5
  obtain ⟨⟨⟨⟨⟨g1, g2⟩, g3⟩, g4⟩, g5⟩, g6⟩ := h5
  simp [Cond.before, Cond.holds, Cond.value, h1, h2, h3, h4, g1, g2, g3, g4, g5, g6]
def isCode : Jvm.Cond → Bool
  | .code _ _ _ _ => true
  | _ => false
theorem all_split {L : List Jvm.Cond} {P : Jvm.Cond → Bool} (h1 : L.all (fun c => isCode c || P c) = true) (h2 : ∀ c ∈ L.filter isCode, P c = true) : L.all P = true := by
  refine List.all_eq_true.mpr fun c hc => ?_
  have h := List.all_eq_true.mp h1 c hc
  rcases Bool.eq_false_or_eq_true (isCode c) with hi | hi
  · exact h2 c (List.mem_filter.mpr ⟨hc, hi⟩)
  · simpa [hi] using h
set_option maxRecDepth 65536 in
theorem w_c0 : (Jvm.Cond.code x code maxLocals ret).before args0 about1 = true := code_word (m := ⟨1, 2⟩) (meth := k1m2) (c := k1c2) (by decide +kernel) rfl rfl rfl (by decide +kernel)
set_option maxRecDepth 65536 in
theorem w_c1 : (Jvm.Cond.code ({ cls := "com/example/strict_credit/strictcredit/diameter/ResultCodeIsProtocolErrorPinLaw", name := "pick", desc := "(I)Lcom/example/strict_credit/strictcredit/diameter/ResultCode;" } : Jvm.MethodName) method_2_code (1 : Nat) (Option.some (Jvm.ClassFile.FieldType.object "com/example/strict_credit/strictcredit/diameter/ResultCode"))).before args0 about1 = true := code_word (m := ⟨1, 1⟩) (meth := k1m1) (c := k1c1) (by decide +kernel) rfl rfl rfl (by decide +kernel)
set_option maxRecDepth 65536 in
theorem w_c2 : (Jvm.Cond.code ({ cls := "com/example/strict_credit/strictcredit/diameter/ResultCode", name := "code", desc := "()I" } : Jvm.MethodName) prog_39_method_4_code (1 : Nat) (Option.some Jvm.ClassFile.FieldType.int)).before args0 about1 = true := code_word (m := ⟨6, 0⟩) (meth := k6m0) (c := k6c0) (by decide +kernel) rfl rfl rfl (by decide +kernel)
set_option maxRecDepth 65536 in
theorem w_c3 : (Jvm.Cond.code ({ cls := "com/example/strict_credit/strictcredit/diameter/ResultCode", name := "isProtocolError", desc := "()Z" } : Jvm.MethodName) prog_39_method_6_code (1 : Nat) (Option.some Jvm.ClassFile.FieldType.boolean)).before args0 about1 = true := code_word (m := ⟨6, 1⟩) (meth := k6m1) (c := k6c1) (by decide +kernel) rfl rfl rfl (by decide +kernel)
def codes1 : List Jvm.Cond := [Jvm.Cond.code x code maxLocals ret, Jvm.Cond.code ({ cls := "com/example/strict_credit/strictcredit/diameter/ResultCodeIsProtocolErrorPinLaw", name := "pick", desc := "(I)Lcom/example/strict_credit/strictcredit/diameter/ResultCode;" } : Jvm.MethodName) method_2_code (1 : Nat) (Option.some (Jvm.ClassFile.FieldType.object "com/example/strict_credit/strictcredit/diameter/ResultCode")), Jvm.Cond.code ({ cls := "com/example/strict_credit/strictcredit/diameter/ResultCode", name := "code", desc := "()I" } : Jvm.MethodName) prog_39_method_4_code (1 : Nat) (Option.some Jvm.ClassFile.FieldType.int), Jvm.Cond.code ({ cls := "com/example/strict_credit/strictcredit/diameter/ResultCode", name := "isProtocolError", desc := "()Z" } : Jvm.MethodName) prog_39_method_6_code (1 : Nat) (Option.some Jvm.ClassFile.FieldType.boolean)]
set_option maxRecDepth 65536 in
theorem codes_eq : words1.filter isCode = codes1 := rfl
theorem w_codes : ∀ c ∈ words1.filter isCode, c.before args0 about1 = true := by
  rw [codes_eq]
  intro c hc
  simp only [codes1, List.mem_cons, List.not_mem_nil, or_false] at hc
  rcases hc with rfl | rfl | rfl | rfl
  · exact w_c0
  · exact w_c1
  · exact w_c2
  · exact w_c3
set_option maxRecDepth 65536 in
theorem w_t1 : (words1.take 24).all (fun c => isCode c || c.before args0 about1) = true := by decide +kernel
set_option maxRecDepth 65536 in
theorem w_t2 : ((words1.drop 24).take 24).all (fun c => isCode c || c.before args0 about1) = true := by decide +kernel
set_option maxRecDepth 65536 in
theorem w_t3 : ((words1.drop 24).drop 24).all (fun c => isCode c || c.before args0 about1) = true := by decide +kernel
theorem w_tables : (allAtoms (Jvm.Cond.code x code maxLocals ret :: tables_1)).before args0 about1 = true := by
  rw [allAtoms_all]
  show words1.all (fun c => c.before args0 about1) = true
  refine all_split ?_ w_codes
  rw [← List.take_append_drop 24 words1, List.all_append, w_t1, ← List.take_append_drop 24 (words1.drop 24), List.all_append, w_t2, w_t3]
  rfl
set_option maxRecDepth 65536 in
theorem w_case : (Jvm.Cond.and given_1 narrow_1).before args0 about1 = true := by decide +kernel
theorem w_applies : (headSpec (Jvm.Cond.code x code maxLocals ret :: tables_1) room_1).applies x e0.platform about1 = true :=
  (Spec.applies_iff w_frames).mpr ⟨w_running, w_runnable, w_alone, w_named, w_hears, w_ripe, w_room, w_tables⟩
theorem atStart : AtStart classFile x code maxLocals ret World_1 tables_1 room_1 Calls_1 rest_1 Pre_1 launch0 p0 e0 about1 theMethod args0 below0 :=
  ⟨lists_1, trivial, launch0.admits_env _ _ _, launch0.least_env, fairChoices_fair.cas, fairChoices_fair.clock, w_frames, w_args, w_heap, w_applies, trivial, trivial, w_case⟩
end start1
theorem witness_1 : WitnessClaimed_1 := ⟨start1.p0, start1.e0, start1.about1, start1.theMethod, start1.args0, start1.below0, start1.atStart⟩
end Jvm.Pilot.@@N@@
