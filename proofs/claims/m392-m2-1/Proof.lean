import JvmDerived
import JvmDerived.Pilot.@@N@@Statement
import JvmDerived.Pilot.@@N@@Code
set_option linter.unusedVariables false
set_option linter.unusedSimpArgs false
@@BLOCK:NumsL.lean.txt@@
namespace Jvm.Pilot.@@N@@
open Jvm Jvm.ClassFile Sem Op Lib Jvm.Free Jvm.Stand Jvm.LawKit Jvm.RoadKit Bundle Jvm.Pilot.@@N@@.Jvm.D
/-- the run goes on from U and ends as Q says -/
def Goes (p : Program) (e : Env) (below : List Frame) (U : State) (Q : Outcome → State → Prop) : Prop := ∃ s₂ o, Steps p.tables e below U s₂ ∧ s₂.status = .running ∧ Ended s₂ below o ∧ Q o s₂
theorem Goes.by {p : Program} {e : Env} {below : List Frame} {U U' : State} {Q : Outcome → State → Prop} (h : ∀ t, Steps p.tables e below U' t → Steps p.tables e below U t) (g : Goes p e below U' Q) : Goes p e below U Q := by
  obtain ⟨s, o, h1, h2⟩ := g; exact ⟨s, o, h _ h1, h2⟩
theorem Goes.tr {p : Program} {e : Env} {below : List Frame} {U U' : State} {Q : Outcome → State → Prop} (h : Steps p.tables e below U U') (g : Goes p e below U' Q) : Goes p e below U Q := Goes.by (fun _ k => h.trans k) g
theorem Goes.join {α : Type} {p : Program} {e : Env} {below : List Frame} {U : State} {Q : Outcome → State → Prop} (P : α → Prop) (S : α → State) (k : (∀ z, P z → Goes p e below (S z) Q) → Goes p e below U Q) (j : ∀ z, P z → Goes p e below (S z) Q) : Goes p e below U Q := k j
theorem Goes.out {p : Program} {e : Env} {below : List Frame} {U : State} {Q : Outcome → State → Prop} (g : Goes p e below U Q) : ∃ s₂ o, Steps p.tables e below U s₂ ∧ s₂.status = .running ∧ Ended s₂ below o ∧ Q o s₂ := g
/-- a callee that writes nothing and returns r -/
def QP (r : Option Value) (h0 : Heap) (n0 : Nat) (v : Option Value) (h : Heap) (L : List Loc) : Prop := v = r ∧ Fr n0 L ∧ h = h0
/-- the law -/
def QL (n0 : Nat) (v : Option Value) (h : Heap) (L : List Loc) : Prop := v = some (.int 1) ∧ Fr n0 L
theorem own_lt {a b : Int64} (h : a < b) : lcmpW a b < 0 := by rw [lcW]; exact (lc_lt a b).mpr h
theorem own_nlt {a b : Int64} (h : ¬ a < b) : ¬ lcmpW a b < 0 := by rw [lcW]; exact fun q => h ((lc_lt a b).mp q)
theorem own_gt {a b : Int64} (h : b < a) : 0 < lcmpW a b := by rw [lcW]; exact (lc_gt a b).mpr h
theorem own_ngt {a b : Int64} (h : ¬ b < a) : ¬ 0 < lcmpW a b := by rw [lcW]; exact fun q => h ((lc_gt a b).mp q)
theorem own_eq {a b : Int64} (h : a = b) : lcmpW a b = 0 := by rw [lcW]; exact (lc_eq a b).mpr h
theorem own_neq {a b : Int64} (h : ¬ a = b) : ¬ lcmpW a b = 0 := by rw [lcW]; exact fun q => h ((lc_eq a b).mp q)
theorem own_staKeep {Z : State} {h h' : Heap} {C n d : String} {v : Value} {ws : List Addr} (F : Sta Z h C n d v) (K : Keep h h' ws) (q : ∀ x ∈ ws, ∃ c : Cell, h[x]? = some c ∧ c.vm.isStatics = false) : Sta Z h' C n d v := by
  obtain ⟨cf, i, k, f, st, cell, h1, h2, h3, h4, h5, h6, h7⟩ := F
  refine ⟨cf, i, k, f, st, cell, h1, h2, h3, h4, K.2.1 st cell h5 (fun hm => ?_), h6, h7⟩
  obtain ⟨c, e1, e2⟩ := q st hm
  cases e1.symm.trans h5; rw [e2] at h6; cases h6
theorem own_nsE {Z : State} {h : Heap} {a : Addr} {C : String} (F : Exa Z h a C) : ∃ c : Cell, h[a]? = some c ∧ c.vm.isStatics = false := by
  obtain ⟨c, k, h1, h2, h3, h4, h5⟩ := F; exact ⟨c, h1, h4⟩
theorem own_nsV {Z : State} {h : Heap} {a : Addr} {k : ClassId} {ty : FieldType} {n : Int32} {vs : List Value} {d : Value} (F : Arv Z h a k ty n vs d) : ∃ c : Cell, h[a]? = some c ∧ c.vm.isStatics = false := by
  obtain ⟨c, A, r⟩ := F; exact ⟨c, A.1, A.plain⟩
theorem own_fldI {s : State} {args : Array Value} {t : Term} {a : Addr} {C n d : String} {k : Int32} (ev : t.eval args s none [] s = some (.ref a)) (h : (Cond.eq (.field t C n d) (.int k)).value args s none s [] = some true) : Fld s s.heap a C n d (.int k) := by
  obtain ⟨x, y, h1, h2, k1, k2⟩ := cmp_v (Or.inl h)
  obtain rfl : y = .int k := (Option.some.inj h2).symm
  obtain ⟨z, rfl⟩ := k2
  have e1 : (Cond.eq (.field t C n d) (.int k)).value args s none s [] = some (decide (z = k)) := by simp [Cond.value, h1, h2]
  have e2 : z = k := gotT e1 h
  subst e2
  rw [fld_at ev] at h1
  exact Fld.start h1
theorem own_fldR {s : State} {args : Array Value} {t u : Term} {a b : Addr} {C n d : String} (ev : t.eval args s none [] s = some (.ref a)) (eu : u.eval args s none [] s = some (.ref b)) (h : (Cond.eq (.field t C n d) u).value args s none s [] = some true) : Fld s s.heap a C n d (.ref b) := by
  obtain ⟨x, y, h1, h2, k1, k2⟩ := cmp_v (Or.inl h)
  obtain rfl : y = .ref b := Option.some.inj (h2.symm.trans eu)
  have hx : x.isRef = true := k2.2
  have e2 : x = .ref b := gotT (eq_R h1 h2 hx rfl) h
  subst e2
  rw [fld_at ev] at h1
  exact Fld.start h1
def Pins (Z : State) (h : Heap) (w : Nat → Addr) : Prop := Sta Z h "com/example/knot3/knot3/definition/Attribute" "CLASS" "Lcom/example/knot3/knot3/definition/Attribute;" (.ref (w 0)) ∧ Exa Z h (w 0) "com/example/knot3/knot3/definition/Attribute" ∧ Sta Z h "com/example/knot3/knot3/definition/Attribute$Kind" "INHERITED" "Lcom/example/knot3/knot3/definition/Attribute$Kind;" (.ref (w 1)) ∧ Exa Z h (w 1) "com/example/knot3/knot3/definition/Attribute$Kind" ∧ Sta Z h "com/example/knot3/knot3/definition/Attribute$Kind" "FILE_WIDE" "Lcom/example/knot3/knot3/definition/Attribute$Kind;" (.ref (w 2)) ∧ Exa Z h (w 2) "com/example/knot3/knot3/definition/Attribute$Kind" ∧ Sta Z h "com/example/knot3/knot3/definition/Attribute" "SCOPE" "Lcom/example/knot3/knot3/definition/Attribute;" (.ref (w 3)) ∧ Exa Z h (w 3) "com/example/knot3/knot3/definition/Attribute" ∧ Sta Z h "com/example/knot3/knot3/definition/Attribute" "PARENT" "Lcom/example/knot3/knot3/definition/Attribute;" (.ref (w 4)) ∧ Exa Z h (w 4) "com/example/knot3/knot3/definition/Attribute" ∧ Sta Z h "com/example/knot3/knot3/definition/Attribute$Kind" "OWN" "Lcom/example/knot3/knot3/definition/Attribute$Kind;" (.ref (w 5)) ∧ Exa Z h (w 5) "com/example/knot3/knot3/definition/Attribute$Kind" ∧ Sta Z h "com/example/knot3/knot3/definition/Attribute" "LAZY_INIT" "Lcom/example/knot3/knot3/definition/Attribute;" (.ref (w 6)) ∧ Exa Z h (w 6) "com/example/knot3/knot3/definition/Attribute" ∧ Sta Z h "com/example/knot3/knot3/definition/Attribute" "DESTROY_METHOD" "Lcom/example/knot3/knot3/definition/Attribute;" (.ref (w 7)) ∧ Exa Z h (w 7) "com/example/knot3/knot3/definition/Attribute" ∧ Sta Z h "com/example/knot3/knot3/definition/Attribute" "ABSTRACT" "Lcom/example/knot3/knot3/definition/Attribute;" (.ref (w 8)) ∧ Exa Z h (w 8) "com/example/knot3/knot3/definition/Attribute" ∧ Sta Z h "com/example/knot3/knot3/definition/Attribute" "DEFAULT_INIT_METHOD" "Lcom/example/knot3/knot3/definition/Attribute;" (.ref (w 9)) ∧ Exa Z h (w 9) "com/example/knot3/knot3/definition/Attribute" ∧ Sta Z h "com/example/knot3/knot3/definition/Attribute" "DEFAULT_DESTROY_METHOD" "Lcom/example/knot3/knot3/definition/Attribute;" (.ref (w 10)) ∧ Exa Z h (w 10) "com/example/knot3/knot3/definition/Attribute" ∧ Sta Z h "com/example/knot3/knot3/definition/Attribute" "DEPENDS_ON" "Lcom/example/knot3/knot3/definition/Attribute;" (.ref (w 11)) ∧ Exa Z h (w 11) "com/example/knot3/knot3/definition/Attribute" ∧ Sta Z h "com/example/knot3/knot3/definition/Attribute" "INIT_METHOD" "Lcom/example/knot3/knot3/definition/Attribute;" (.ref (w 12)) ∧ Exa Z h (w 12) "com/example/knot3/knot3/definition/Attribute" ∧ Fld Z h (w 0) "com/example/knot3/knot3/definition/Attribute" "kind" "Lcom/example/knot3/knot3/definition/Attribute$Kind;" (.ref (w 1)) ∧ Fld Z h (w 1) "java/lang/Enum" "ordinal" "I" (.int (1 : Int32)) ∧ Fld Z h (w 2) "java/lang/Enum" "ordinal" "I" (.int (2 : Int32)) ∧ Fld Z h (w 3) "com/example/knot3/knot3/definition/Attribute" "kind" "Lcom/example/knot3/knot3/definition/Attribute$Kind;" (.ref (w 1)) ∧ Fld Z h (w 4) "com/example/knot3/knot3/definition/Attribute" "kind" "Lcom/example/knot3/knot3/definition/Attribute$Kind;" (.ref (w 5)) ∧ Fld Z h (w 5) "java/lang/Enum" "ordinal" "I" (.int (0 : Int32)) ∧ Fld Z h (w 6) "com/example/knot3/knot3/definition/Attribute" "kind" "Lcom/example/knot3/knot3/definition/Attribute$Kind;" (.ref (w 5)) ∧ Fld Z h (w 7) "com/example/knot3/knot3/definition/Attribute" "kind" "Lcom/example/knot3/knot3/definition/Attribute$Kind;" (.ref (w 1)) ∧ Fld Z h (w 8) "com/example/knot3/knot3/definition/Attribute" "kind" "Lcom/example/knot3/knot3/definition/Attribute$Kind;" (.ref (w 5)) ∧ Fld Z h (w 9) "com/example/knot3/knot3/definition/Attribute" "kind" "Lcom/example/knot3/knot3/definition/Attribute$Kind;" (.ref (w 2)) ∧ Fld Z h (w 10) "com/example/knot3/knot3/definition/Attribute" "kind" "Lcom/example/knot3/knot3/definition/Attribute$Kind;" (.ref (w 2)) ∧ Fld Z h (w 11) "com/example/knot3/knot3/definition/Attribute" "kind" "Lcom/example/knot3/knot3/definition/Attribute$Kind;" (.ref (w 5)) ∧ Fld Z h (w 12) "com/example/knot3/knot3/definition/Attribute" "kind" "Lcom/example/knot3/knot3/definition/Attribute$Kind;" (.ref (w 1))
theorem own_ne_1_2 {Z : State} {h : Heap} {w : Nat → Addr} (P : Pins Z h w) : w 1 ≠ w 2 := Fld.ne P.2.2.2.2.2.2.2.2.2.2.2.2.2.2.2.2.2.2.2.2.2.2.2.2.2.2.2.1 P.2.2.2.2.2.2.2.2.2.2.2.2.2.2.2.2.2.2.2.2.2.2.2.2.2.2.2.2.1 (fun q => absurd (Value.int.inj q) (by decide))
theorem own_ne_1_5 {Z : State} {h : Heap} {w : Nat → Addr} (P : Pins Z h w) : w 1 ≠ w 5 := Fld.ne P.2.2.2.2.2.2.2.2.2.2.2.2.2.2.2.2.2.2.2.2.2.2.2.2.2.2.2.1 P.2.2.2.2.2.2.2.2.2.2.2.2.2.2.2.2.2.2.2.2.2.2.2.2.2.2.2.2.2.2.2.1 (fun q => absurd (Value.int.inj q) (by decide))
theorem own_split (x : Int32) : ((x &&& (2147483647 : Int32)) % (10 : Int32)) = (0 : Int32) ∨ ((x &&& (2147483647 : Int32)) % (10 : Int32)) = (1 : Int32) ∨ ((x &&& (2147483647 : Int32)) % (10 : Int32)) = (2 : Int32) ∨ ((x &&& (2147483647 : Int32)) % (10 : Int32)) = (3 : Int32) ∨ ((x &&& (2147483647 : Int32)) % (10 : Int32)) = (4 : Int32) ∨ ((x &&& (2147483647 : Int32)) % (10 : Int32)) = (5 : Int32) ∨ ((x &&& (2147483647 : Int32)) % (10 : Int32)) = (6 : Int32) ∨ ((x &&& (2147483647 : Int32)) % (10 : Int32)) = (7 : Int32) ∨ ((x &&& (2147483647 : Int32)) % (10 : Int32)) = (8 : Int32) ∨ ((x &&& (2147483647 : Int32)) % (10 : Int32)) = (9 : Int32) := by
  have e1 : (x &&& (2147483647 : Int32)).toInt = x.toInt % 2 ^ 31 := Jvm.Kit.i32_mask x (2147483647 : Int32) (k := 31) (by decide) (by decide)
  have e2 : (((x &&& (2147483647 : Int32)) % (10 : Int32))).toInt = (x &&& (2147483647 : Int32)).toInt % (10 : Int32).toInt := Jvm.Kit.i32_rem_nonneg (by omega)
  rw [show (10 : Int32).toInt = 10 from by decide] at e2
  simp only [← Int32.toInt_inj]
  rw [show (0 : Int32).toInt = 0 from by decide, show (1 : Int32).toInt = 1 from by decide, show (2 : Int32).toInt = 2 from by decide, show (3 : Int32).toInt = 3 from by decide, show (4 : Int32).toInt = 4 from by decide, show (5 : Int32).toInt = 5 from by decide, show (6 : Int32).toInt = 6 from by decide, show (7 : Int32).toInt = 7 from by decide, show (8 : Int32).toInt = 8 from by decide, show (9 : Int32).toInt = 9 from by decide]
  omega
theorem d1_0 : decode method_2_code 0 = .ok (.iload_n 0, 1) := by decide +kernel
theorem d1_1 : decode method_2_code 1 = .ok (.ifCond .ne 7, 3) := by decide +kernel
theorem d1_4 : decode method_2_code 4 = .ok (.getstatic 7, 3) := by decide +kernel
theorem d1_7 : decode method_2_code 7 = .ok (.areturn, 1) := by decide +kernel
theorem ef1_I (m : MethodId) (x0 : Int32) : entryFrame m #[(.int x0)] 1 = mkF m 0 #[.val (.int x0)] [] := by first | (simp [entryFrame, mkF, argsToLocals, Value.category]; done) | rfl
theorem pn0 : plainName "com/example/knot3/knot3/definition/AttributeInheritedPinLaw" = true := by first | (simp [plainName, overriddenIn]; done) | decide +kernel
theorem pd0 : parseMethodDescriptor "(I)Lcom/example/knot3/knot3/definition/Attribute;" = some ⟨[.int], some (.object "com/example/knot3/knot3/definition/Attribute")⟩ := by decide +kernel
theorem d2_0 : decode prog_25_method_6_code 0 = .ok (.aload_n 0, 1) := by decide +kernel
theorem d2_1 : decode prog_25_method_6_code 1 = .ok (.getfield 57, 3) := by decide +kernel
theorem d2_4 : decode prog_25_method_6_code 4 = .ok (.getstatic 66, 3) := by decide +kernel
theorem d2_7 : decode prog_25_method_6_code 7 = .ok (.if_acmp .ne 7, 3) := by decide +kernel
theorem d2_10 : decode prog_25_method_6_code 10 = .ok (.iconst 1, 1) := by decide +kernel
theorem d2_11 : decode prog_25_method_6_code 11 = .ok (.goto 4, 3) := by decide +kernel
theorem d2_15 : decode prog_25_method_6_code 15 = .ok (.ireturn, 1) := by decide +kernel
theorem ef2_R (m : MethodId) (x0 : Addr) : entryFrame m #[(.ref x0)] 1 = mkF m 0 #[.val (.ref x0)] [] := by first | (simp [entryFrame, mkF, argsToLocals, Value.category]; done) | rfl
theorem pn1 : plainName "com/example/knot3/knot3/definition/Attribute" = true := by first | (simp [plainName, overriddenIn]; done) | decide +kernel
theorem pd1 : parseMethodDescriptor "()Z" = some ⟨[], some .boolean⟩ := by decide +kernel
theorem d3_0 : decode prog_25_method_5_code 0 = .ok (.aload_n 0, 1) := by decide +kernel
theorem d3_1 : decode prog_25_method_5_code 1 = .ok (.getfield 57, 3) := by decide +kernel
theorem d3_4 : decode prog_25_method_5_code 4 = .ok (.getstatic 61, 3) := by decide +kernel
theorem d3_7 : decode prog_25_method_5_code 7 = .ok (.if_acmp .ne 7, 3) := by decide +kernel
theorem d3_14 : decode prog_25_method_5_code 14 = .ok (.iconst 0, 1) := by decide +kernel
theorem d3_15 : decode prog_25_method_5_code 15 = .ok (.ireturn, 1) := by decide +kernel
theorem ef3_R (m : MethodId) (x0 : Addr) : entryFrame m #[(.ref x0)] 1 = mkF m 0 #[.val (.ref x0)] [] := by first | (simp [entryFrame, mkF, argsToLocals, Value.category]; done) | rfl
theorem d1_8 : decode method_2_code 8 = .ok (.iload_n 0, 1) := by decide +kernel
theorem d1_9 : decode method_2_code 9 = .ok (.iconst 1, 1) := by decide +kernel
theorem d1_10 : decode method_2_code 10 = .ok (.if_icmp .ne 7, 3) := by decide +kernel
theorem d1_13 : decode method_2_code 13 = .ok (.getstatic 13, 3) := by decide +kernel
theorem d1_16 : decode method_2_code 16 = .ok (.areturn, 1) := by decide +kernel
theorem d2_14 : decode prog_25_method_6_code 14 = .ok (.iconst 0, 1) := by decide +kernel
theorem d1_17 : decode method_2_code 17 = .ok (.iload_n 0, 1) := by decide +kernel
theorem d1_18 : decode method_2_code 18 = .ok (.iconst 2, 1) := by decide +kernel
theorem d1_19 : decode method_2_code 19 = .ok (.if_icmp .ne 7, 3) := by decide +kernel
theorem d1_22 : decode method_2_code 22 = .ok (.getstatic 16, 3) := by decide +kernel
theorem d1_25 : decode method_2_code 25 = .ok (.areturn, 1) := by decide +kernel
theorem d1_26 : decode method_2_code 26 = .ok (.iload_n 0, 1) := by decide +kernel
theorem d1_27 : decode method_2_code 27 = .ok (.iconst 3, 1) := by decide +kernel
theorem d1_28 : decode method_2_code 28 = .ok (.if_icmp .ne 7, 3) := by decide +kernel
theorem d1_31 : decode method_2_code 31 = .ok (.getstatic 19, 3) := by decide +kernel
theorem d1_34 : decode method_2_code 34 = .ok (.areturn, 1) := by decide +kernel
theorem d1_35 : decode method_2_code 35 = .ok (.iload_n 0, 1) := by decide +kernel
theorem d1_36 : decode method_2_code 36 = .ok (.iconst 4, 1) := by decide +kernel
theorem d1_37 : decode method_2_code 37 = .ok (.if_icmp .ne 7, 3) := by decide +kernel
theorem d1_40 : decode method_2_code 40 = .ok (.getstatic 22, 3) := by decide +kernel
theorem d1_43 : decode method_2_code 43 = .ok (.areturn, 1) := by decide +kernel
theorem d1_44 : decode method_2_code 44 = .ok (.iload_n 0, 1) := by decide +kernel
theorem d1_45 : decode method_2_code 45 = .ok (.iconst 5, 1) := by decide +kernel
theorem d1_46 : decode method_2_code 46 = .ok (.if_icmp .ne 7, 3) := by decide +kernel
theorem d1_49 : decode method_2_code 49 = .ok (.getstatic 25, 3) := by decide +kernel
theorem d1_52 : decode method_2_code 52 = .ok (.areturn, 1) := by decide +kernel
theorem d1_53 : decode method_2_code 53 = .ok (.iload_n 0, 1) := by decide +kernel
theorem d1_54 : decode method_2_code 54 = .ok (.bipush 6, 2) := by decide +kernel
theorem d1_56 : decode method_2_code 56 = .ok (.if_icmp .ne 7, 3) := by decide +kernel
theorem d1_59 : decode method_2_code 59 = .ok (.getstatic 28, 3) := by decide +kernel
theorem d1_62 : decode method_2_code 62 = .ok (.areturn, 1) := by decide +kernel
theorem d1_63 : decode method_2_code 63 = .ok (.iload_n 0, 1) := by decide +kernel
theorem d1_64 : decode method_2_code 64 = .ok (.bipush 7, 2) := by decide +kernel
theorem d1_66 : decode method_2_code 66 = .ok (.if_icmp .ne 7, 3) := by decide +kernel
theorem d1_69 : decode method_2_code 69 = .ok (.getstatic 31, 3) := by decide +kernel
theorem d1_72 : decode method_2_code 72 = .ok (.areturn, 1) := by decide +kernel
theorem d1_73 : decode method_2_code 73 = .ok (.iload_n 0, 1) := by decide +kernel
theorem d1_74 : decode method_2_code 74 = .ok (.bipush 8, 2) := by decide +kernel
theorem d1_76 : decode method_2_code 76 = .ok (.if_icmp .ne 7, 3) := by decide +kernel
theorem d1_79 : decode method_2_code 79 = .ok (.getstatic 34, 3) := by decide +kernel
theorem d1_82 : decode method_2_code 82 = .ok (.areturn, 1) := by decide +kernel
theorem d1_83 : decode method_2_code 83 = .ok (.getstatic 37, 3) := by decide +kernel
theorem d1_86 : decode method_2_code 86 = .ok (.areturn, 1) := by decide +kernel
theorem ef0_I (m : MethodId) (x0 : Int32) : entryFrame m #[(.int x0)] maxLocals = mkF m 0 #[.val (.int x0), .unset, .unset, .unset, .unset] [] := by first | (simp [entryFrame, mkF, argsToLocals, Value.category, maxLocals]; done) | rfl
set_option maxRecDepth 65536 in
set_option maxHeartbeats 40000000 in
theorem r1_0 (l : Launch) (Z : State) (a0 : Array Value) (hw : ∀ d ∈ tables_1, d.before a0 Z = true) (ws : List Jvm.Cond) (h0 : Heap) (n0 : Nat) (Z0 : n0 ≤ h0.size) (w : Nat → Addr) (P : Pins Z h0 w) :
    MetFree l (⟨"com/example/knot3/knot3/definition/AttributeInheritedPinLaw", "pick", "(I)Lcom/example/knot3/knot3/definition/Attribute;"⟩ : MethodName) (head1 (Jvm.Cond.code (⟨"com/example/knot3/knot3/definition/AttributeInheritedPinLaw", "pick", "(I)Lcom/example/knot3/knot3/definition/Attribute;"⟩ : MethodName) method_2_code 1 (some (.object "com/example/knot3/knot3/definition/Attribute")) :: ws) ({ frames := 0, cells := 0, slots := 0, locals := 0 } : Room)) (fun a U => a = #[(.int (0 : Int32))] ∧ Z.Warmed39 U.vm ∧ U.heap = h0) (fun _ _ _ _ _ => True) (fun _ U o U' => ∃ v L, o = .returned v ∧ QP (some (.ref (w 0))) h0 n0 v U'.heap L ∧ FrameEnd U o U' L ({ frames := 0, cells := 0, slots := 0, locals := 0 } : Room).cells ({ frames := 0, cells := 0, slots := 0, locals := 0 } : Room).slots) := by
  refine MetFree.of_bodySF (plainFor_of_name pn0) hisR ?_
  intro p e s m args below meth c s₁ Bd hml0 hP hK
  obtain ⟨rfl, hZ, hh⟩ := hP
  have hx := Bd.exec
  have hby := Bd.bytes
  have hml : c.maxLocals = 1 := hml0
  have hown : s.vm.findClass "com/example/knot3/knot3/definition/AttributeInheritedPinLaw" = some m.cls := findClass_of_methodNamed Bd.named
  have hnm := (name_of_methodNamed Bd.named Bd.method).1
  have X0 : Stand p l e ({ frames := 0, cells := 0, slots := 0, locals := 0 } : Room) s m #[(.int (0 : Int32))] below meth c s₁ [] 0 0 := Stand.of_body Bd
  have e0 : s₁.heap = h0 := by rw [← hh, Bd.state]; rfl
  have N0 := Fr.nil n0
  refine Goes.out (Goes.by (fun t k => castTop (ef1_I m ((0 : Int32))) k) ?_)
  show Goes p e below (s₁.setTop (mkF m 0 #[.val (.int (0 : Int32))] [])) _
  refine Goes.by (fun _ k => XS.iloadN X0.here hx rfl (hb hby d1_0) rfl (XS.ifNo X0.here hx rfl (hb hby d1_1) rfl ((if0 _ _).trans (teq (by decide : (0 : Int32) = (0 : Int32))).2) k)) ?_
  obtain ⟨T1, X1, e1, st1⟩ := getS2 X0 hx hZ hown (host := "") (Or.inl (hw _ (List.mem_of_getElem? (i := 5) rfl))) Via.refl e0 P.1 (g := (mkF m 4 #[.val (.int (0 : Int32))] [])) rfl (hb hby d1_4)
  refine Goes.by st1 ?_
  show Goes p e below (T1.setTop (mkF m 7 #[.val (.int (0 : Int32))] [(.ref (w 0))])) _
  obtain ⟨fs, hr, hrun, hended, hW, hsame⟩ := X1.leave (v := some (.ref (w 0))) (fun h => by rw [Bd.returns] at h; cases h)
  exact ⟨_, _, retOut X1 hx (t := (.object "com/example/knot3/knot3/definition/Attribute")) Bd.returns rfl (Or.inr (Or.inr (Or.inr (Or.inr ⟨rfl, rfl, rfl⟩)))) (hb hby d1_7) hr, hrun, hended, _, _, rfl, ⟨rfl, N0, e1⟩, ⟨_, rfl⟩, hW, hsame.mono (by decide) (by decide)⟩
set_option maxRecDepth 65536 in
set_option maxHeartbeats 40000000 in
theorem r2_1 (l : Launch) (Z : State) (a0 : Array Value) (hw : ∀ d ∈ tables_1, d.before a0 Z = true) (ws : List Jvm.Cond) (h0 : Heap) (n0 : Nat) (Z0 : n0 ≤ h0.size) (w : Nat → Addr) (P : Pins Z h0 w) :
    MetFree l (⟨"com/example/knot3/knot3/definition/Attribute", "inherited", "()Z"⟩ : MethodName) (head1 (Jvm.Cond.code (⟨"com/example/knot3/knot3/definition/Attribute", "inherited", "()Z"⟩ : MethodName) prog_25_method_6_code 1 (some .boolean) :: ws) ({ frames := 0, cells := 0, slots := 0, locals := 0 } : Room)) (fun a U => a = #[(.ref (w 0))] ∧ Z.Warmed39 U.vm ∧ U.heap = h0) (fun _ _ _ _ _ => True) (fun _ U o U' => ∃ v L, o = .returned v ∧ QP (some (.int (1 : Int32))) h0 n0 v U'.heap L ∧ FrameEnd U o U' L ({ frames := 0, cells := 0, slots := 0, locals := 0 } : Room).cells ({ frames := 0, cells := 0, slots := 0, locals := 0 } : Room).slots) := by
  refine MetFree.of_bodySF (plainFor_of_name pn1) hisR ?_
  intro p e s m args below meth c s₁ Bd hml0 hP hK
  obtain ⟨rfl, hZ, hh⟩ := hP
  have hx := Bd.exec
  have hby := Bd.bytes
  have hml : c.maxLocals = 1 := hml0
  have hown : s.vm.findClass "com/example/knot3/knot3/definition/Attribute" = some m.cls := findClass_of_methodNamed Bd.named
  have hnm := (name_of_methodNamed Bd.named Bd.method).1
  have X0 : Stand p l e ({ frames := 0, cells := 0, slots := 0, locals := 0 } : Room) s m #[(.ref (w 0))] below meth c s₁ [] 0 0 := Stand.of_body Bd
  have e0 : s₁.heap = h0 := by rw [← hh, Bd.state]; rfl
  have N0 := Fr.nil n0
  refine Goes.out (Goes.by (fun t k => castTop (ef2_R m ((w 0))) k) ?_)
  show Goes p e below (s₁.setTop (mkF m 0 #[.val (.ref (w 0))] [])) _
  refine Goes.by (fun _ k => XS.aloadN X0.here hx rfl (hb hby d2_0) rfl rfl k) ?_
  obtain ⟨T3, X3, e3, st3⟩ := getF X0 hx hZ hown (host := "") (Or.inl (hw _ (List.mem_of_getElem? (i := 13) rfl))) Via.refl e0 P.2.2.2.2.2.2.2.2.2.2.2.2.2.2.2.2.2.2.2.2.2.2.2.2.2.2.1 (g := (mkF m 1 #[.val (.ref (w 0))] [(.ref (w 0))])) rfl rfl (hb hby d2_1)
  refine Goes.by st3 ?_
  obtain ⟨T4, X4, e4, st4⟩ := getS2 X3 hx hZ hown (host := "") (Or.inl (hw _ (List.mem_of_getElem? (i := 17) rfl))) Via.refl e3 P.2.2.1 (g := (mkF m 4 #[.val (.ref (w 0))] [(.ref (w 1))])) rfl (hb hby d2_4)
  refine Goes.by st4 ?_
  refine Goes.by (fun _ k => Jvm.RoadKit.acmp (g := (mkF m 7 #[.val (.ref (w 0))] [(.ref (w 1)), (.ref (w 1))])) X4 hx rfl rfl rfl (pc0 := 7) (pc' := 10) (same := true) rfl (hb hby d2_7) rfl (decide_eq_true rfl) (by decide) (by decide) (XS.iconst X4.here hx rfl (hb hby d2_10) (XS.goto X4.here hx rfl (pc0 := 11) (pc' := 15) rfl (hb hby d2_11) (by decide) (by decide) k))) ?_
  show Goes p e below (T4.setTop (mkF m 15 #[.val (.ref (w 0))] [(.int (1 : Int32))])) _
  obtain ⟨fs, hr, hrun, hended, hW, hsame⟩ := X4.leave (v := some (.int (1 : Int32))) (fun h => by rw [Bd.returns] at h; cases h)
  exact ⟨_, _, retN X4 hx (t := .boolean) Bd.returns (by simp) (hb hby d2_15) hr, hrun, hended, _, _, rfl, ⟨rfl, N0, e4⟩, ⟨_, rfl⟩, hW, hsame.mono (by decide) (by decide)⟩
set_option maxRecDepth 65536 in
set_option maxHeartbeats 40000000 in
theorem r3_2 (l : Launch) (Z : State) (a0 : Array Value) (hw : ∀ d ∈ tables_1, d.before a0 Z = true) (ws : List Jvm.Cond) (h0 : Heap) (n0 : Nat) (Z0 : n0 ≤ h0.size) (w : Nat → Addr) (P : Pins Z h0 w) :
    MetFree l (⟨"com/example/knot3/knot3/definition/Attribute", "fileWide", "()Z"⟩ : MethodName) (head1 (Jvm.Cond.code (⟨"com/example/knot3/knot3/definition/Attribute", "fileWide", "()Z"⟩ : MethodName) prog_25_method_5_code 1 (some .boolean) :: ws) ({ frames := 0, cells := 0, slots := 0, locals := 0 } : Room)) (fun a U => a = #[(.ref (w 0))] ∧ Z.Warmed39 U.vm ∧ U.heap = h0) (fun _ _ _ _ _ => True) (fun _ U o U' => ∃ v L, o = .returned v ∧ QP (some (.int (0 : Int32))) h0 n0 v U'.heap L ∧ FrameEnd U o U' L ({ frames := 0, cells := 0, slots := 0, locals := 0 } : Room).cells ({ frames := 0, cells := 0, slots := 0, locals := 0 } : Room).slots) := by
  refine MetFree.of_bodySF (plainFor_of_name pn1) hisR ?_
  intro p e s m args below meth c s₁ Bd hml0 hP hK
  obtain ⟨rfl, hZ, hh⟩ := hP
  have hx := Bd.exec
  have hby := Bd.bytes
  have hml : c.maxLocals = 1 := hml0
  have hown : s.vm.findClass "com/example/knot3/knot3/definition/Attribute" = some m.cls := findClass_of_methodNamed Bd.named
  have hnm := (name_of_methodNamed Bd.named Bd.method).1
  have X0 : Stand p l e ({ frames := 0, cells := 0, slots := 0, locals := 0 } : Room) s m #[(.ref (w 0))] below meth c s₁ [] 0 0 := Stand.of_body Bd
  have e0 : s₁.heap = h0 := by rw [← hh, Bd.state]; rfl
  have N0 := Fr.nil n0
  refine Goes.out (Goes.by (fun t k => castTop (ef3_R m ((w 0))) k) ?_)
  show Goes p e below (s₁.setTop (mkF m 0 #[.val (.ref (w 0))] [])) _
  refine Goes.by (fun _ k => XS.aloadN X0.here hx rfl (hb hby d3_0) rfl rfl k) ?_
  obtain ⟨T6, X6, e6, st6⟩ := getF X0 hx hZ hown (host := "") (Or.inl (hw _ (List.mem_of_getElem? (i := 13) rfl))) Via.refl e0 P.2.2.2.2.2.2.2.2.2.2.2.2.2.2.2.2.2.2.2.2.2.2.2.2.2.2.1 (g := (mkF m 1 #[.val (.ref (w 0))] [(.ref (w 0))])) rfl rfl (hb hby d3_1)
  refine Goes.by st6 ?_
  obtain ⟨T7, X7, e7, st7⟩ := getS2 X6 hx hZ hown (host := "") (Or.inl (hw _ (List.mem_of_getElem? (i := 23) rfl))) Via.refl e6 P.2.2.2.2.1 (g := (mkF m 4 #[.val (.ref (w 0))] [(.ref (w 1))])) rfl (hb hby d3_4)
  refine Goes.by st7 ?_
  refine Goes.by (fun _ k => Jvm.RoadKit.acmp (g := (mkF m 7 #[.val (.ref (w 0))] [(.ref (w 2)), (.ref (w 1))])) X7 hx rfl rfl rfl (pc0 := 7) (pc' := 14) (same := false) rfl (hb hby d3_7) rfl (decide_eq_false fun q => (own_ne_1_2 P) (Value.ref.inj q)) (by decide) (by decide) (XS.iconst X7.here hx rfl (hb hby d3_14) k)) ?_
  show Goes p e below (T7.setTop (mkF m 15 #[.val (.ref (w 0))] [(.int (0 : Int32))])) _
  obtain ⟨fs, hr, hrun, hended, hW, hsame⟩ := X7.leave (v := some (.int (0 : Int32))) (fun h => by rw [Bd.returns] at h; cases h)
  exact ⟨_, _, retN X7 hx (t := .boolean) Bd.returns (by simp) (hb hby d3_15) hr, hrun, hended, _, _, rfl, ⟨rfl, N0, e7⟩, ⟨_, rfl⟩, hW, hsame.mono (by decide) (by decide)⟩
set_option maxRecDepth 65536 in
set_option maxHeartbeats 40000000 in
theorem r1_3 (l : Launch) (Z : State) (a0 : Array Value) (hw : ∀ d ∈ tables_1, d.before a0 Z = true) (ws : List Jvm.Cond) (h0 : Heap) (n0 : Nat) (Z0 : n0 ≤ h0.size) (w : Nat → Addr) (P : Pins Z h0 w) :
    MetFree l (⟨"com/example/knot3/knot3/definition/AttributeInheritedPinLaw", "pick", "(I)Lcom/example/knot3/knot3/definition/Attribute;"⟩ : MethodName) (head1 (Jvm.Cond.code (⟨"com/example/knot3/knot3/definition/AttributeInheritedPinLaw", "pick", "(I)Lcom/example/knot3/knot3/definition/Attribute;"⟩ : MethodName) method_2_code 1 (some (.object "com/example/knot3/knot3/definition/Attribute")) :: ws) ({ frames := 0, cells := 0, slots := 0, locals := 0 } : Room)) (fun a U => a = #[(.int (1 : Int32))] ∧ Z.Warmed39 U.vm ∧ U.heap = h0) (fun _ _ _ _ _ => True) (fun _ U o U' => ∃ v L, o = .returned v ∧ QP (some (.ref (w 4))) h0 n0 v U'.heap L ∧ FrameEnd U o U' L ({ frames := 0, cells := 0, slots := 0, locals := 0 } : Room).cells ({ frames := 0, cells := 0, slots := 0, locals := 0 } : Room).slots) := by
  refine MetFree.of_bodySF (plainFor_of_name pn0) hisR ?_
  intro p e s m args below meth c s₁ Bd hml0 hP hK
  obtain ⟨rfl, hZ, hh⟩ := hP
  have hx := Bd.exec
  have hby := Bd.bytes
  have hml : c.maxLocals = 1 := hml0
  have hown : s.vm.findClass "com/example/knot3/knot3/definition/AttributeInheritedPinLaw" = some m.cls := findClass_of_methodNamed Bd.named
  have hnm := (name_of_methodNamed Bd.named Bd.method).1
  have X0 : Stand p l e ({ frames := 0, cells := 0, slots := 0, locals := 0 } : Room) s m #[(.int (1 : Int32))] below meth c s₁ [] 0 0 := Stand.of_body Bd
  have e0 : s₁.heap = h0 := by rw [← hh, Bd.state]; rfl
  have N0 := Fr.nil n0
  refine Goes.out (Goes.by (fun t k => castTop (ef1_I m ((1 : Int32))) k) ?_)
  show Goes p e below (s₁.setTop (mkF m 0 #[.val (.int (1 : Int32))] [])) _
  refine Goes.by (fun _ k => XS.iloadN X0.here hx rfl (hb hby d1_0) rfl (XS.ifYes X0.here hx rfl (pc0 := 1) (pc' := 8) rfl (hb hby d1_1) rfl ((if0 _ _).trans (feq (by decide : ¬ ((1 : Int32) = (0 : Int32)))).2) (by decide) (by decide) (XS.iloadN X0.here hx rfl (hb hby d1_8) rfl k))) ?_
  show Goes p e below (s₁.setTop (mkF m 9 #[.val (.int (1 : Int32))] [(.int (1 : Int32))])) _
  refine Goes.by (fun _ k => XS.iconst X0.here hx rfl (hb hby d1_9) (XS.icmpNo X0.here hx rfl (hb hby d1_10) rfl (teq (by decide : (1 : Int32) = (1 : Int32))).2 k)) ?_
  obtain ⟨T9, X9, e9, st9⟩ := getS2 X0 hx hZ hown (host := "") (Or.inl (hw _ (List.mem_of_getElem? (i := 27) rfl))) Via.refl e0 P.2.2.2.2.2.2.2.2.1 (g := (mkF m 13 #[.val (.int (1 : Int32))] [])) rfl (hb hby d1_13)
  refine Goes.by st9 ?_
  show Goes p e below (T9.setTop (mkF m 16 #[.val (.int (1 : Int32))] [(.ref (w 4))])) _
  obtain ⟨fs, hr, hrun, hended, hW, hsame⟩ := X9.leave (v := some (.ref (w 4))) (fun h => by rw [Bd.returns] at h; cases h)
  exact ⟨_, _, retOut X9 hx (t := (.object "com/example/knot3/knot3/definition/Attribute")) Bd.returns rfl (Or.inr (Or.inr (Or.inr (Or.inr ⟨rfl, rfl, rfl⟩)))) (hb hby d1_16) hr, hrun, hended, _, _, rfl, ⟨rfl, N0, e9⟩, ⟨_, rfl⟩, hW, hsame.mono (by decide) (by decide)⟩
set_option maxRecDepth 65536 in
set_option maxHeartbeats 40000000 in
theorem r2_4 (l : Launch) (Z : State) (a0 : Array Value) (hw : ∀ d ∈ tables_1, d.before a0 Z = true) (ws : List Jvm.Cond) (h0 : Heap) (n0 : Nat) (Z0 : n0 ≤ h0.size) (w : Nat → Addr) (P : Pins Z h0 w) :
    MetFree l (⟨"com/example/knot3/knot3/definition/Attribute", "inherited", "()Z"⟩ : MethodName) (head1 (Jvm.Cond.code (⟨"com/example/knot3/knot3/definition/Attribute", "inherited", "()Z"⟩ : MethodName) prog_25_method_6_code 1 (some .boolean) :: ws) ({ frames := 0, cells := 0, slots := 0, locals := 0 } : Room)) (fun a U => a = #[(.ref (w 4))] ∧ Z.Warmed39 U.vm ∧ U.heap = h0) (fun _ _ _ _ _ => True) (fun _ U o U' => ∃ v L, o = .returned v ∧ QP (some (.int (0 : Int32))) h0 n0 v U'.heap L ∧ FrameEnd U o U' L ({ frames := 0, cells := 0, slots := 0, locals := 0 } : Room).cells ({ frames := 0, cells := 0, slots := 0, locals := 0 } : Room).slots) := by
  refine MetFree.of_bodySF (plainFor_of_name pn1) hisR ?_
  intro p e s m args below meth c s₁ Bd hml0 hP hK
  obtain ⟨rfl, hZ, hh⟩ := hP
  have hx := Bd.exec
  have hby := Bd.bytes
  have hml : c.maxLocals = 1 := hml0
  have hown : s.vm.findClass "com/example/knot3/knot3/definition/Attribute" = some m.cls := findClass_of_methodNamed Bd.named
  have hnm := (name_of_methodNamed Bd.named Bd.method).1
  have X0 : Stand p l e ({ frames := 0, cells := 0, slots := 0, locals := 0 } : Room) s m #[(.ref (w 4))] below meth c s₁ [] 0 0 := Stand.of_body Bd
  have e0 : s₁.heap = h0 := by rw [← hh, Bd.state]; rfl
  have N0 := Fr.nil n0
  refine Goes.out (Goes.by (fun t k => castTop (ef2_R m ((w 4))) k) ?_)
  show Goes p e below (s₁.setTop (mkF m 0 #[.val (.ref (w 4))] [])) _
  refine Goes.by (fun _ k => XS.aloadN X0.here hx rfl (hb hby d2_0) rfl rfl k) ?_
  obtain ⟨T11, X11, e11, st11⟩ := getF X0 hx hZ hown (host := "") (Or.inl (hw _ (List.mem_of_getElem? (i := 13) rfl))) Via.refl e0 P.2.2.2.2.2.2.2.2.2.2.2.2.2.2.2.2.2.2.2.2.2.2.2.2.2.2.2.2.2.2.1 (g := (mkF m 1 #[.val (.ref (w 4))] [(.ref (w 4))])) rfl rfl (hb hby d2_1)
  refine Goes.by st11 ?_
  obtain ⟨T12, X12, e12, st12⟩ := getS2 X11 hx hZ hown (host := "") (Or.inl (hw _ (List.mem_of_getElem? (i := 17) rfl))) Via.refl e11 P.2.2.1 (g := (mkF m 4 #[.val (.ref (w 4))] [(.ref (w 5))])) rfl (hb hby d2_4)
  refine Goes.by st12 ?_
  refine Goes.by (fun _ k => Jvm.RoadKit.acmp (g := (mkF m 7 #[.val (.ref (w 4))] [(.ref (w 1)), (.ref (w 5))])) X12 hx rfl rfl rfl (pc0 := 7) (pc' := 14) (same := false) rfl (hb hby d2_7) rfl (decide_eq_false fun q => (Ne.symm (own_ne_1_5 P)) (Value.ref.inj q)) (by decide) (by decide) (XS.iconst X12.here hx rfl (hb hby d2_14) k)) ?_
  show Goes p e below (T12.setTop (mkF m 15 #[.val (.ref (w 4))] [(.int (0 : Int32))])) _
  obtain ⟨fs, hr, hrun, hended, hW, hsame⟩ := X12.leave (v := some (.int (0 : Int32))) (fun h => by rw [Bd.returns] at h; cases h)
  exact ⟨_, _, retN X12 hx (t := .boolean) Bd.returns (by simp) (hb hby d2_15) hr, hrun, hended, _, _, rfl, ⟨rfl, N0, e12⟩, ⟨_, rfl⟩, hW, hsame.mono (by decide) (by decide)⟩
set_option maxRecDepth 65536 in
set_option maxHeartbeats 40000000 in
theorem r1_5 (l : Launch) (Z : State) (a0 : Array Value) (hw : ∀ d ∈ tables_1, d.before a0 Z = true) (ws : List Jvm.Cond) (h0 : Heap) (n0 : Nat) (Z0 : n0 ≤ h0.size) (w : Nat → Addr) (P : Pins Z h0 w) :
    MetFree l (⟨"com/example/knot3/knot3/definition/AttributeInheritedPinLaw", "pick", "(I)Lcom/example/knot3/knot3/definition/Attribute;"⟩ : MethodName) (head1 (Jvm.Cond.code (⟨"com/example/knot3/knot3/definition/AttributeInheritedPinLaw", "pick", "(I)Lcom/example/knot3/knot3/definition/Attribute;"⟩ : MethodName) method_2_code 1 (some (.object "com/example/knot3/knot3/definition/Attribute")) :: ws) ({ frames := 0, cells := 0, slots := 0, locals := 0 } : Room)) (fun a U => a = #[(.int (2 : Int32))] ∧ Z.Warmed39 U.vm ∧ U.heap = h0) (fun _ _ _ _ _ => True) (fun _ U o U' => ∃ v L, o = .returned v ∧ QP (some (.ref (w 8))) h0 n0 v U'.heap L ∧ FrameEnd U o U' L ({ frames := 0, cells := 0, slots := 0, locals := 0 } : Room).cells ({ frames := 0, cells := 0, slots := 0, locals := 0 } : Room).slots) := by
  refine MetFree.of_bodySF (plainFor_of_name pn0) hisR ?_
  intro p e s m args below meth c s₁ Bd hml0 hP hK
  obtain ⟨rfl, hZ, hh⟩ := hP
  have hx := Bd.exec
  have hby := Bd.bytes
  have hml : c.maxLocals = 1 := hml0
  have hown : s.vm.findClass "com/example/knot3/knot3/definition/AttributeInheritedPinLaw" = some m.cls := findClass_of_methodNamed Bd.named
  have hnm := (name_of_methodNamed Bd.named Bd.method).1
  have X0 : Stand p l e ({ frames := 0, cells := 0, slots := 0, locals := 0 } : Room) s m #[(.int (2 : Int32))] below meth c s₁ [] 0 0 := Stand.of_body Bd
  have e0 : s₁.heap = h0 := by rw [← hh, Bd.state]; rfl
  have N0 := Fr.nil n0
  refine Goes.out (Goes.by (fun t k => castTop (ef1_I m ((2 : Int32))) k) ?_)
  show Goes p e below (s₁.setTop (mkF m 0 #[.val (.int (2 : Int32))] [])) _
  refine Goes.by (fun _ k => XS.iloadN X0.here hx rfl (hb hby d1_0) rfl (XS.ifYes X0.here hx rfl (pc0 := 1) (pc' := 8) rfl (hb hby d1_1) rfl ((if0 _ _).trans (feq (by decide : ¬ ((2 : Int32) = (0 : Int32)))).2) (by decide) (by decide) (XS.iloadN X0.here hx rfl (hb hby d1_8) rfl k))) ?_
  show Goes p e below (s₁.setTop (mkF m 9 #[.val (.int (2 : Int32))] [(.int (2 : Int32))])) _
  refine Goes.by (fun _ k => XS.iconst X0.here hx rfl (hb hby d1_9) (XS.icmpYes X0.here hx rfl (pc0 := 10) (pc' := 17) rfl (hb hby d1_10) rfl (feq (by decide : ¬ ((2 : Int32) = (1 : Int32)))).2 (by decide) (by decide) (XS.iloadN X0.here hx rfl (hb hby d1_17) rfl k))) ?_
  show Goes p e below (s₁.setTop (mkF m 18 #[.val (.int (2 : Int32))] [(.int (2 : Int32))])) _
  refine Goes.by (fun _ k => XS.iconst X0.here hx rfl (hb hby d1_18) (XS.icmpNo X0.here hx rfl (hb hby d1_19) rfl (teq (by decide : (2 : Int32) = (2 : Int32))).2 k)) ?_
  obtain ⟨T14, X14, e14, st14⟩ := getS2 X0 hx hZ hown (host := "") (Or.inl (hw _ (List.mem_of_getElem? (i := 34) rfl))) Via.refl e0 P.2.2.2.2.2.2.2.2.2.2.2.2.2.2.2.2.1 (g := (mkF m 22 #[.val (.int (2 : Int32))] [])) rfl (hb hby d1_22)
  refine Goes.by st14 ?_
  show Goes p e below (T14.setTop (mkF m 25 #[.val (.int (2 : Int32))] [(.ref (w 8))])) _
  obtain ⟨fs, hr, hrun, hended, hW, hsame⟩ := X14.leave (v := some (.ref (w 8))) (fun h => by rw [Bd.returns] at h; cases h)
  exact ⟨_, _, retOut X14 hx (t := (.object "com/example/knot3/knot3/definition/Attribute")) Bd.returns rfl (Or.inr (Or.inr (Or.inr (Or.inr ⟨rfl, rfl, rfl⟩)))) (hb hby d1_25) hr, hrun, hended, _, _, rfl, ⟨rfl, N0, e14⟩, ⟨_, rfl⟩, hW, hsame.mono (by decide) (by decide)⟩
set_option maxRecDepth 65536 in
set_option maxHeartbeats 40000000 in
theorem r2_6 (l : Launch) (Z : State) (a0 : Array Value) (hw : ∀ d ∈ tables_1, d.before a0 Z = true) (ws : List Jvm.Cond) (h0 : Heap) (n0 : Nat) (Z0 : n0 ≤ h0.size) (w : Nat → Addr) (P : Pins Z h0 w) :
    MetFree l (⟨"com/example/knot3/knot3/definition/Attribute", "inherited", "()Z"⟩ : MethodName) (head1 (Jvm.Cond.code (⟨"com/example/knot3/knot3/definition/Attribute", "inherited", "()Z"⟩ : MethodName) prog_25_method_6_code 1 (some .boolean) :: ws) ({ frames := 0, cells := 0, slots := 0, locals := 0 } : Room)) (fun a U => a = #[(.ref (w 8))] ∧ Z.Warmed39 U.vm ∧ U.heap = h0) (fun _ _ _ _ _ => True) (fun _ U o U' => ∃ v L, o = .returned v ∧ QP (some (.int (0 : Int32))) h0 n0 v U'.heap L ∧ FrameEnd U o U' L ({ frames := 0, cells := 0, slots := 0, locals := 0 } : Room).cells ({ frames := 0, cells := 0, slots := 0, locals := 0 } : Room).slots) := by
  refine MetFree.of_bodySF (plainFor_of_name pn1) hisR ?_
  intro p e s m args below meth c s₁ Bd hml0 hP hK
  obtain ⟨rfl, hZ, hh⟩ := hP
  have hx := Bd.exec
  have hby := Bd.bytes
  have hml : c.maxLocals = 1 := hml0
  have hown : s.vm.findClass "com/example/knot3/knot3/definition/Attribute" = some m.cls := findClass_of_methodNamed Bd.named
  have hnm := (name_of_methodNamed Bd.named Bd.method).1
  have X0 : Stand p l e ({ frames := 0, cells := 0, slots := 0, locals := 0 } : Room) s m #[(.ref (w 8))] below meth c s₁ [] 0 0 := Stand.of_body Bd
  have e0 : s₁.heap = h0 := by rw [← hh, Bd.state]; rfl
  have N0 := Fr.nil n0
  refine Goes.out (Goes.by (fun t k => castTop (ef2_R m ((w 8))) k) ?_)
  show Goes p e below (s₁.setTop (mkF m 0 #[.val (.ref (w 8))] [])) _
  refine Goes.by (fun _ k => XS.aloadN X0.here hx rfl (hb hby d2_0) rfl rfl k) ?_
  obtain ⟨T16, X16, e16, st16⟩ := getF X0 hx hZ hown (host := "") (Or.inl (hw _ (List.mem_of_getElem? (i := 13) rfl))) Via.refl e0 P.2.2.2.2.2.2.2.2.2.2.2.2.2.2.2.2.2.2.2.2.2.2.2.2.2.2.2.2.2.2.2.2.2.2.1 (g := (mkF m 1 #[.val (.ref (w 8))] [(.ref (w 8))])) rfl rfl (hb hby d2_1)
  refine Goes.by st16 ?_
  obtain ⟨T17, X17, e17, st17⟩ := getS2 X16 hx hZ hown (host := "") (Or.inl (hw _ (List.mem_of_getElem? (i := 17) rfl))) Via.refl e16 P.2.2.1 (g := (mkF m 4 #[.val (.ref (w 8))] [(.ref (w 5))])) rfl (hb hby d2_4)
  refine Goes.by st17 ?_
  refine Goes.by (fun _ k => Jvm.RoadKit.acmp (g := (mkF m 7 #[.val (.ref (w 8))] [(.ref (w 1)), (.ref (w 5))])) X17 hx rfl rfl rfl (pc0 := 7) (pc' := 14) (same := false) rfl (hb hby d2_7) rfl (decide_eq_false fun q => (Ne.symm (own_ne_1_5 P)) (Value.ref.inj q)) (by decide) (by decide) (XS.iconst X17.here hx rfl (hb hby d2_14) k)) ?_
  show Goes p e below (T17.setTop (mkF m 15 #[.val (.ref (w 8))] [(.int (0 : Int32))])) _
  obtain ⟨fs, hr, hrun, hended, hW, hsame⟩ := X17.leave (v := some (.int (0 : Int32))) (fun h => by rw [Bd.returns] at h; cases h)
  exact ⟨_, _, retN X17 hx (t := .boolean) Bd.returns (by simp) (hb hby d2_15) hr, hrun, hended, _, _, rfl, ⟨rfl, N0, e17⟩, ⟨_, rfl⟩, hW, hsame.mono (by decide) (by decide)⟩
set_option maxRecDepth 65536 in
set_option maxHeartbeats 40000000 in
theorem r1_7 (l : Launch) (Z : State) (a0 : Array Value) (hw : ∀ d ∈ tables_1, d.before a0 Z = true) (ws : List Jvm.Cond) (h0 : Heap) (n0 : Nat) (Z0 : n0 ≤ h0.size) (w : Nat → Addr) (P : Pins Z h0 w) :
    MetFree l (⟨"com/example/knot3/knot3/definition/AttributeInheritedPinLaw", "pick", "(I)Lcom/example/knot3/knot3/definition/Attribute;"⟩ : MethodName) (head1 (Jvm.Cond.code (⟨"com/example/knot3/knot3/definition/AttributeInheritedPinLaw", "pick", "(I)Lcom/example/knot3/knot3/definition/Attribute;"⟩ : MethodName) method_2_code 1 (some (.object "com/example/knot3/knot3/definition/Attribute")) :: ws) ({ frames := 0, cells := 0, slots := 0, locals := 0 } : Room)) (fun a U => a = #[(.int (3 : Int32))] ∧ Z.Warmed39 U.vm ∧ U.heap = h0) (fun _ _ _ _ _ => True) (fun _ U o U' => ∃ v L, o = .returned v ∧ QP (some (.ref (w 3))) h0 n0 v U'.heap L ∧ FrameEnd U o U' L ({ frames := 0, cells := 0, slots := 0, locals := 0 } : Room).cells ({ frames := 0, cells := 0, slots := 0, locals := 0 } : Room).slots) := by
  refine MetFree.of_bodySF (plainFor_of_name pn0) hisR ?_
  intro p e s m args below meth c s₁ Bd hml0 hP hK
  obtain ⟨rfl, hZ, hh⟩ := hP
  have hx := Bd.exec
  have hby := Bd.bytes
  have hml : c.maxLocals = 1 := hml0
  have hown : s.vm.findClass "com/example/knot3/knot3/definition/AttributeInheritedPinLaw" = some m.cls := findClass_of_methodNamed Bd.named
  have hnm := (name_of_methodNamed Bd.named Bd.method).1
  have X0 : Stand p l e ({ frames := 0, cells := 0, slots := 0, locals := 0 } : Room) s m #[(.int (3 : Int32))] below meth c s₁ [] 0 0 := Stand.of_body Bd
  have e0 : s₁.heap = h0 := by rw [← hh, Bd.state]; rfl
  have N0 := Fr.nil n0
  refine Goes.out (Goes.by (fun t k => castTop (ef1_I m ((3 : Int32))) k) ?_)
  show Goes p e below (s₁.setTop (mkF m 0 #[.val (.int (3 : Int32))] [])) _
  refine Goes.by (fun _ k => XS.iloadN X0.here hx rfl (hb hby d1_0) rfl (XS.ifYes X0.here hx rfl (pc0 := 1) (pc' := 8) rfl (hb hby d1_1) rfl ((if0 _ _).trans (feq (by decide : ¬ ((3 : Int32) = (0 : Int32)))).2) (by decide) (by decide) (XS.iloadN X0.here hx rfl (hb hby d1_8) rfl k))) ?_
  show Goes p e below (s₁.setTop (mkF m 9 #[.val (.int (3 : Int32))] [(.int (3 : Int32))])) _
  refine Goes.by (fun _ k => XS.iconst X0.here hx rfl (hb hby d1_9) (XS.icmpYes X0.here hx rfl (pc0 := 10) (pc' := 17) rfl (hb hby d1_10) rfl (feq (by decide : ¬ ((3 : Int32) = (1 : Int32)))).2 (by decide) (by decide) (XS.iloadN X0.here hx rfl (hb hby d1_17) rfl k))) ?_
  show Goes p e below (s₁.setTop (mkF m 18 #[.val (.int (3 : Int32))] [(.int (3 : Int32))])) _
  refine Goes.by (fun _ k => XS.iconst X0.here hx rfl (hb hby d1_18) (XS.icmpYes X0.here hx rfl (pc0 := 19) (pc' := 26) rfl (hb hby d1_19) rfl (feq (by decide : ¬ ((3 : Int32) = (2 : Int32)))).2 (by decide) (by decide) (XS.iloadN X0.here hx rfl (hb hby d1_26) rfl k))) ?_
  show Goes p e below (s₁.setTop (mkF m 27 #[.val (.int (3 : Int32))] [(.int (3 : Int32))])) _
  refine Goes.by (fun _ k => XS.iconst X0.here hx rfl (hb hby d1_27) (XS.icmpNo X0.here hx rfl (hb hby d1_28) rfl (teq (by decide : (3 : Int32) = (3 : Int32))).2 k)) ?_
  obtain ⟨T19, X19, e19, st19⟩ := getS2 X0 hx hZ hown (host := "") (Or.inl (hw _ (List.mem_of_getElem? (i := 25) rfl))) Via.refl e0 P.2.2.2.2.2.2.1 (g := (mkF m 31 #[.val (.int (3 : Int32))] [])) rfl (hb hby d1_31)
  refine Goes.by st19 ?_
  show Goes p e below (T19.setTop (mkF m 34 #[.val (.int (3 : Int32))] [(.ref (w 3))])) _
  obtain ⟨fs, hr, hrun, hended, hW, hsame⟩ := X19.leave (v := some (.ref (w 3))) (fun h => by rw [Bd.returns] at h; cases h)
  exact ⟨_, _, retOut X19 hx (t := (.object "com/example/knot3/knot3/definition/Attribute")) Bd.returns rfl (Or.inr (Or.inr (Or.inr (Or.inr ⟨rfl, rfl, rfl⟩)))) (hb hby d1_34) hr, hrun, hended, _, _, rfl, ⟨rfl, N0, e19⟩, ⟨_, rfl⟩, hW, hsame.mono (by decide) (by decide)⟩
set_option maxRecDepth 65536 in
set_option maxHeartbeats 40000000 in
theorem r2_8 (l : Launch) (Z : State) (a0 : Array Value) (hw : ∀ d ∈ tables_1, d.before a0 Z = true) (ws : List Jvm.Cond) (h0 : Heap) (n0 : Nat) (Z0 : n0 ≤ h0.size) (w : Nat → Addr) (P : Pins Z h0 w) :
    MetFree l (⟨"com/example/knot3/knot3/definition/Attribute", "inherited", "()Z"⟩ : MethodName) (head1 (Jvm.Cond.code (⟨"com/example/knot3/knot3/definition/Attribute", "inherited", "()Z"⟩ : MethodName) prog_25_method_6_code 1 (some .boolean) :: ws) ({ frames := 0, cells := 0, slots := 0, locals := 0 } : Room)) (fun a U => a = #[(.ref (w 3))] ∧ Z.Warmed39 U.vm ∧ U.heap = h0) (fun _ _ _ _ _ => True) (fun _ U o U' => ∃ v L, o = .returned v ∧ QP (some (.int (1 : Int32))) h0 n0 v U'.heap L ∧ FrameEnd U o U' L ({ frames := 0, cells := 0, slots := 0, locals := 0 } : Room).cells ({ frames := 0, cells := 0, slots := 0, locals := 0 } : Room).slots) := by
  refine MetFree.of_bodySF (plainFor_of_name pn1) hisR ?_
  intro p e s m args below meth c s₁ Bd hml0 hP hK
  obtain ⟨rfl, hZ, hh⟩ := hP
  have hx := Bd.exec
  have hby := Bd.bytes
  have hml : c.maxLocals = 1 := hml0
  have hown : s.vm.findClass "com/example/knot3/knot3/definition/Attribute" = some m.cls := findClass_of_methodNamed Bd.named
  have hnm := (name_of_methodNamed Bd.named Bd.method).1
  have X0 : Stand p l e ({ frames := 0, cells := 0, slots := 0, locals := 0 } : Room) s m #[(.ref (w 3))] below meth c s₁ [] 0 0 := Stand.of_body Bd
  have e0 : s₁.heap = h0 := by rw [← hh, Bd.state]; rfl
  have N0 := Fr.nil n0
  refine Goes.out (Goes.by (fun t k => castTop (ef2_R m ((w 3))) k) ?_)
  show Goes p e below (s₁.setTop (mkF m 0 #[.val (.ref (w 3))] [])) _
  refine Goes.by (fun _ k => XS.aloadN X0.here hx rfl (hb hby d2_0) rfl rfl k) ?_
  obtain ⟨T21, X21, e21, st21⟩ := getF X0 hx hZ hown (host := "") (Or.inl (hw _ (List.mem_of_getElem? (i := 13) rfl))) Via.refl e0 P.2.2.2.2.2.2.2.2.2.2.2.2.2.2.2.2.2.2.2.2.2.2.2.2.2.2.2.2.2.1 (g := (mkF m 1 #[.val (.ref (w 3))] [(.ref (w 3))])) rfl rfl (hb hby d2_1)
  refine Goes.by st21 ?_
  obtain ⟨T22, X22, e22, st22⟩ := getS2 X21 hx hZ hown (host := "") (Or.inl (hw _ (List.mem_of_getElem? (i := 17) rfl))) Via.refl e21 P.2.2.1 (g := (mkF m 4 #[.val (.ref (w 3))] [(.ref (w 1))])) rfl (hb hby d2_4)
  refine Goes.by st22 ?_
  refine Goes.by (fun _ k => Jvm.RoadKit.acmp (g := (mkF m 7 #[.val (.ref (w 3))] [(.ref (w 1)), (.ref (w 1))])) X22 hx rfl rfl rfl (pc0 := 7) (pc' := 10) (same := true) rfl (hb hby d2_7) rfl (decide_eq_true rfl) (by decide) (by decide) (XS.iconst X22.here hx rfl (hb hby d2_10) (XS.goto X22.here hx rfl (pc0 := 11) (pc' := 15) rfl (hb hby d2_11) (by decide) (by decide) k))) ?_
  show Goes p e below (T22.setTop (mkF m 15 #[.val (.ref (w 3))] [(.int (1 : Int32))])) _
  obtain ⟨fs, hr, hrun, hended, hW, hsame⟩ := X22.leave (v := some (.int (1 : Int32))) (fun h => by rw [Bd.returns] at h; cases h)
  exact ⟨_, _, retN X22 hx (t := .boolean) Bd.returns (by simp) (hb hby d2_15) hr, hrun, hended, _, _, rfl, ⟨rfl, N0, e22⟩, ⟨_, rfl⟩, hW, hsame.mono (by decide) (by decide)⟩
set_option maxRecDepth 65536 in
set_option maxHeartbeats 40000000 in
theorem r3_9 (l : Launch) (Z : State) (a0 : Array Value) (hw : ∀ d ∈ tables_1, d.before a0 Z = true) (ws : List Jvm.Cond) (h0 : Heap) (n0 : Nat) (Z0 : n0 ≤ h0.size) (w : Nat → Addr) (P : Pins Z h0 w) :
    MetFree l (⟨"com/example/knot3/knot3/definition/Attribute", "fileWide", "()Z"⟩ : MethodName) (head1 (Jvm.Cond.code (⟨"com/example/knot3/knot3/definition/Attribute", "fileWide", "()Z"⟩ : MethodName) prog_25_method_5_code 1 (some .boolean) :: ws) ({ frames := 0, cells := 0, slots := 0, locals := 0 } : Room)) (fun a U => a = #[(.ref (w 3))] ∧ Z.Warmed39 U.vm ∧ U.heap = h0) (fun _ _ _ _ _ => True) (fun _ U o U' => ∃ v L, o = .returned v ∧ QP (some (.int (0 : Int32))) h0 n0 v U'.heap L ∧ FrameEnd U o U' L ({ frames := 0, cells := 0, slots := 0, locals := 0 } : Room).cells ({ frames := 0, cells := 0, slots := 0, locals := 0 } : Room).slots) := by
  refine MetFree.of_bodySF (plainFor_of_name pn1) hisR ?_
  intro p e s m args below meth c s₁ Bd hml0 hP hK
  obtain ⟨rfl, hZ, hh⟩ := hP
  have hx := Bd.exec
  have hby := Bd.bytes
  have hml : c.maxLocals = 1 := hml0
  have hown : s.vm.findClass "com/example/knot3/knot3/definition/Attribute" = some m.cls := findClass_of_methodNamed Bd.named
  have hnm := (name_of_methodNamed Bd.named Bd.method).1
  have X0 : Stand p l e ({ frames := 0, cells := 0, slots := 0, locals := 0 } : Room) s m #[(.ref (w 3))] below meth c s₁ [] 0 0 := Stand.of_body Bd
  have e0 : s₁.heap = h0 := by rw [← hh, Bd.state]; rfl
  have N0 := Fr.nil n0
  refine Goes.out (Goes.by (fun t k => castTop (ef3_R m ((w 3))) k) ?_)
  show Goes p e below (s₁.setTop (mkF m 0 #[.val (.ref (w 3))] [])) _
  refine Goes.by (fun _ k => XS.aloadN X0.here hx rfl (hb hby d3_0) rfl rfl k) ?_
  obtain ⟨T24, X24, e24, st24⟩ := getF X0 hx hZ hown (host := "") (Or.inl (hw _ (List.mem_of_getElem? (i := 13) rfl))) Via.refl e0 P.2.2.2.2.2.2.2.2.2.2.2.2.2.2.2.2.2.2.2.2.2.2.2.2.2.2.2.2.2.1 (g := (mkF m 1 #[.val (.ref (w 3))] [(.ref (w 3))])) rfl rfl (hb hby d3_1)
  refine Goes.by st24 ?_
  obtain ⟨T25, X25, e25, st25⟩ := getS2 X24 hx hZ hown (host := "") (Or.inl (hw _ (List.mem_of_getElem? (i := 23) rfl))) Via.refl e24 P.2.2.2.2.1 (g := (mkF m 4 #[.val (.ref (w 3))] [(.ref (w 1))])) rfl (hb hby d3_4)
  refine Goes.by st25 ?_
  refine Goes.by (fun _ k => Jvm.RoadKit.acmp (g := (mkF m 7 #[.val (.ref (w 3))] [(.ref (w 2)), (.ref (w 1))])) X25 hx rfl rfl rfl (pc0 := 7) (pc' := 14) (same := false) rfl (hb hby d3_7) rfl (decide_eq_false fun q => (own_ne_1_2 P) (Value.ref.inj q)) (by decide) (by decide) (XS.iconst X25.here hx rfl (hb hby d3_14) k)) ?_
  show Goes p e below (T25.setTop (mkF m 15 #[.val (.ref (w 3))] [(.int (0 : Int32))])) _
  obtain ⟨fs, hr, hrun, hended, hW, hsame⟩ := X25.leave (v := some (.int (0 : Int32))) (fun h => by rw [Bd.returns] at h; cases h)
  exact ⟨_, _, retN X25 hx (t := .boolean) Bd.returns (by simp) (hb hby d3_15) hr, hrun, hended, _, _, rfl, ⟨rfl, N0, e25⟩, ⟨_, rfl⟩, hW, hsame.mono (by decide) (by decide)⟩
set_option maxRecDepth 65536 in
set_option maxHeartbeats 40000000 in
theorem r1_10 (l : Launch) (Z : State) (a0 : Array Value) (hw : ∀ d ∈ tables_1, d.before a0 Z = true) (ws : List Jvm.Cond) (h0 : Heap) (n0 : Nat) (Z0 : n0 ≤ h0.size) (w : Nat → Addr) (P : Pins Z h0 w) :
    MetFree l (⟨"com/example/knot3/knot3/definition/AttributeInheritedPinLaw", "pick", "(I)Lcom/example/knot3/knot3/definition/Attribute;"⟩ : MethodName) (head1 (Jvm.Cond.code (⟨"com/example/knot3/knot3/definition/AttributeInheritedPinLaw", "pick", "(I)Lcom/example/knot3/knot3/definition/Attribute;"⟩ : MethodName) method_2_code 1 (some (.object "com/example/knot3/knot3/definition/Attribute")) :: ws) ({ frames := 0, cells := 0, slots := 0, locals := 0 } : Room)) (fun a U => a = #[(.int (4 : Int32))] ∧ Z.Warmed39 U.vm ∧ U.heap = h0) (fun _ _ _ _ _ => True) (fun _ U o U' => ∃ v L, o = .returned v ∧ QP (some (.ref (w 6))) h0 n0 v U'.heap L ∧ FrameEnd U o U' L ({ frames := 0, cells := 0, slots := 0, locals := 0 } : Room).cells ({ frames := 0, cells := 0, slots := 0, locals := 0 } : Room).slots) := by
  refine MetFree.of_bodySF (plainFor_of_name pn0) hisR ?_
  intro p e s m args below meth c s₁ Bd hml0 hP hK
  obtain ⟨rfl, hZ, hh⟩ := hP
  have hx := Bd.exec
  have hby := Bd.bytes
  have hml : c.maxLocals = 1 := hml0
  have hown : s.vm.findClass "com/example/knot3/knot3/definition/AttributeInheritedPinLaw" = some m.cls := findClass_of_methodNamed Bd.named
  have hnm := (name_of_methodNamed Bd.named Bd.method).1
  have X0 : Stand p l e ({ frames := 0, cells := 0, slots := 0, locals := 0 } : Room) s m #[(.int (4 : Int32))] below meth c s₁ [] 0 0 := Stand.of_body Bd
  have e0 : s₁.heap = h0 := by rw [← hh, Bd.state]; rfl
  have N0 := Fr.nil n0
  refine Goes.out (Goes.by (fun t k => castTop (ef1_I m ((4 : Int32))) k) ?_)
  show Goes p e below (s₁.setTop (mkF m 0 #[.val (.int (4 : Int32))] [])) _
  refine Goes.by (fun _ k => XS.iloadN X0.here hx rfl (hb hby d1_0) rfl (XS.ifYes X0.here hx rfl (pc0 := 1) (pc' := 8) rfl (hb hby d1_1) rfl ((if0 _ _).trans (feq (by decide : ¬ ((4 : Int32) = (0 : Int32)))).2) (by decide) (by decide) (XS.iloadN X0.here hx rfl (hb hby d1_8) rfl k))) ?_
  show Goes p e below (s₁.setTop (mkF m 9 #[.val (.int (4 : Int32))] [(.int (4 : Int32))])) _
  refine Goes.by (fun _ k => XS.iconst X0.here hx rfl (hb hby d1_9) (XS.icmpYes X0.here hx rfl (pc0 := 10) (pc' := 17) rfl (hb hby d1_10) rfl (feq (by decide : ¬ ((4 : Int32) = (1 : Int32)))).2 (by decide) (by decide) (XS.iloadN X0.here hx rfl (hb hby d1_17) rfl k))) ?_
  show Goes p e below (s₁.setTop (mkF m 18 #[.val (.int (4 : Int32))] [(.int (4 : Int32))])) _
  refine Goes.by (fun _ k => XS.iconst X0.here hx rfl (hb hby d1_18) (XS.icmpYes X0.here hx rfl (pc0 := 19) (pc' := 26) rfl (hb hby d1_19) rfl (feq (by decide : ¬ ((4 : Int32) = (2 : Int32)))).2 (by decide) (by decide) (XS.iloadN X0.here hx rfl (hb hby d1_26) rfl k))) ?_
  show Goes p e below (s₁.setTop (mkF m 27 #[.val (.int (4 : Int32))] [(.int (4 : Int32))])) _
  refine Goes.by (fun _ k => XS.iconst X0.here hx rfl (hb hby d1_27) (XS.icmpYes X0.here hx rfl (pc0 := 28) (pc' := 35) rfl (hb hby d1_28) rfl (feq (by decide : ¬ ((4 : Int32) = (3 : Int32)))).2 (by decide) (by decide) (XS.iloadN X0.here hx rfl (hb hby d1_35) rfl k))) ?_
  show Goes p e below (s₁.setTop (mkF m 36 #[.val (.int (4 : Int32))] [(.int (4 : Int32))])) _
  refine Goes.by (fun _ k => XS.iconst X0.here hx rfl (hb hby d1_36) (XS.icmpNo X0.here hx rfl (hb hby d1_37) rfl (teq (by decide : (4 : Int32) = (4 : Int32))).2 k)) ?_
  obtain ⟨T27, X27, e27, st27⟩ := getS2 X0 hx hZ hown (host := "") (Or.inl (hw _ (List.mem_of_getElem? (i := 30) rfl))) Via.refl e0 P.2.2.2.2.2.2.2.2.2.2.2.2.1 (g := (mkF m 40 #[.val (.int (4 : Int32))] [])) rfl (hb hby d1_40)
  refine Goes.by st27 ?_
  show Goes p e below (T27.setTop (mkF m 43 #[.val (.int (4 : Int32))] [(.ref (w 6))])) _
  obtain ⟨fs, hr, hrun, hended, hW, hsame⟩ := X27.leave (v := some (.ref (w 6))) (fun h => by rw [Bd.returns] at h; cases h)
  exact ⟨_, _, retOut X27 hx (t := (.object "com/example/knot3/knot3/definition/Attribute")) Bd.returns rfl (Or.inr (Or.inr (Or.inr (Or.inr ⟨rfl, rfl, rfl⟩)))) (hb hby d1_43) hr, hrun, hended, _, _, rfl, ⟨rfl, N0, e27⟩, ⟨_, rfl⟩, hW, hsame.mono (by decide) (by decide)⟩
set_option maxRecDepth 65536 in
set_option maxHeartbeats 40000000 in
theorem r2_11 (l : Launch) (Z : State) (a0 : Array Value) (hw : ∀ d ∈ tables_1, d.before a0 Z = true) (ws : List Jvm.Cond) (h0 : Heap) (n0 : Nat) (Z0 : n0 ≤ h0.size) (w : Nat → Addr) (P : Pins Z h0 w) :
    MetFree l (⟨"com/example/knot3/knot3/definition/Attribute", "inherited", "()Z"⟩ : MethodName) (head1 (Jvm.Cond.code (⟨"com/example/knot3/knot3/definition/Attribute", "inherited", "()Z"⟩ : MethodName) prog_25_method_6_code 1 (some .boolean) :: ws) ({ frames := 0, cells := 0, slots := 0, locals := 0 } : Room)) (fun a U => a = #[(.ref (w 6))] ∧ Z.Warmed39 U.vm ∧ U.heap = h0) (fun _ _ _ _ _ => True) (fun _ U o U' => ∃ v L, o = .returned v ∧ QP (some (.int (0 : Int32))) h0 n0 v U'.heap L ∧ FrameEnd U o U' L ({ frames := 0, cells := 0, slots := 0, locals := 0 } : Room).cells ({ frames := 0, cells := 0, slots := 0, locals := 0 } : Room).slots) := by
  refine MetFree.of_bodySF (plainFor_of_name pn1) hisR ?_
  intro p e s m args below meth c s₁ Bd hml0 hP hK
  obtain ⟨rfl, hZ, hh⟩ := hP
  have hx := Bd.exec
  have hby := Bd.bytes
  have hml : c.maxLocals = 1 := hml0
  have hown : s.vm.findClass "com/example/knot3/knot3/definition/Attribute" = some m.cls := findClass_of_methodNamed Bd.named
  have hnm := (name_of_methodNamed Bd.named Bd.method).1
  have X0 : Stand p l e ({ frames := 0, cells := 0, slots := 0, locals := 0 } : Room) s m #[(.ref (w 6))] below meth c s₁ [] 0 0 := Stand.of_body Bd
  have e0 : s₁.heap = h0 := by rw [← hh, Bd.state]; rfl
  have N0 := Fr.nil n0
  refine Goes.out (Goes.by (fun t k => castTop (ef2_R m ((w 6))) k) ?_)
  show Goes p e below (s₁.setTop (mkF m 0 #[.val (.ref (w 6))] [])) _
  refine Goes.by (fun _ k => XS.aloadN X0.here hx rfl (hb hby d2_0) rfl rfl k) ?_
  obtain ⟨T29, X29, e29, st29⟩ := getF X0 hx hZ hown (host := "") (Or.inl (hw _ (List.mem_of_getElem? (i := 13) rfl))) Via.refl e0 P.2.2.2.2.2.2.2.2.2.2.2.2.2.2.2.2.2.2.2.2.2.2.2.2.2.2.2.2.2.2.2.2.1 (g := (mkF m 1 #[.val (.ref (w 6))] [(.ref (w 6))])) rfl rfl (hb hby d2_1)
  refine Goes.by st29 ?_
  obtain ⟨T30, X30, e30, st30⟩ := getS2 X29 hx hZ hown (host := "") (Or.inl (hw _ (List.mem_of_getElem? (i := 17) rfl))) Via.refl e29 P.2.2.1 (g := (mkF m 4 #[.val (.ref (w 6))] [(.ref (w 5))])) rfl (hb hby d2_4)
  refine Goes.by st30 ?_
  refine Goes.by (fun _ k => Jvm.RoadKit.acmp (g := (mkF m 7 #[.val (.ref (w 6))] [(.ref (w 1)), (.ref (w 5))])) X30 hx rfl rfl rfl (pc0 := 7) (pc' := 14) (same := false) rfl (hb hby d2_7) rfl (decide_eq_false fun q => (Ne.symm (own_ne_1_5 P)) (Value.ref.inj q)) (by decide) (by decide) (XS.iconst X30.here hx rfl (hb hby d2_14) k)) ?_
  show Goes p e below (T30.setTop (mkF m 15 #[.val (.ref (w 6))] [(.int (0 : Int32))])) _
  obtain ⟨fs, hr, hrun, hended, hW, hsame⟩ := X30.leave (v := some (.int (0 : Int32))) (fun h => by rw [Bd.returns] at h; cases h)
  exact ⟨_, _, retN X30 hx (t := .boolean) Bd.returns (by simp) (hb hby d2_15) hr, hrun, hended, _, _, rfl, ⟨rfl, N0, e30⟩, ⟨_, rfl⟩, hW, hsame.mono (by decide) (by decide)⟩
set_option maxRecDepth 65536 in
set_option maxHeartbeats 40000000 in
theorem r1_12 (l : Launch) (Z : State) (a0 : Array Value) (hw : ∀ d ∈ tables_1, d.before a0 Z = true) (ws : List Jvm.Cond) (h0 : Heap) (n0 : Nat) (Z0 : n0 ≤ h0.size) (w : Nat → Addr) (P : Pins Z h0 w) :
    MetFree l (⟨"com/example/knot3/knot3/definition/AttributeInheritedPinLaw", "pick", "(I)Lcom/example/knot3/knot3/definition/Attribute;"⟩ : MethodName) (head1 (Jvm.Cond.code (⟨"com/example/knot3/knot3/definition/AttributeInheritedPinLaw", "pick", "(I)Lcom/example/knot3/knot3/definition/Attribute;"⟩ : MethodName) method_2_code 1 (some (.object "com/example/knot3/knot3/definition/Attribute")) :: ws) ({ frames := 0, cells := 0, slots := 0, locals := 0 } : Room)) (fun a U => a = #[(.int (5 : Int32))] ∧ Z.Warmed39 U.vm ∧ U.heap = h0) (fun _ _ _ _ _ => True) (fun _ U o U' => ∃ v L, o = .returned v ∧ QP (some (.ref (w 11))) h0 n0 v U'.heap L ∧ FrameEnd U o U' L ({ frames := 0, cells := 0, slots := 0, locals := 0 } : Room).cells ({ frames := 0, cells := 0, slots := 0, locals := 0 } : Room).slots) := by
  refine MetFree.of_bodySF (plainFor_of_name pn0) hisR ?_
  intro p e s m args below meth c s₁ Bd hml0 hP hK
  obtain ⟨rfl, hZ, hh⟩ := hP
  have hx := Bd.exec
  have hby := Bd.bytes
  have hml : c.maxLocals = 1 := hml0
  have hown : s.vm.findClass "com/example/knot3/knot3/definition/AttributeInheritedPinLaw" = some m.cls := findClass_of_methodNamed Bd.named
  have hnm := (name_of_methodNamed Bd.named Bd.method).1
  have X0 : Stand p l e ({ frames := 0, cells := 0, slots := 0, locals := 0 } : Room) s m #[(.int (5 : Int32))] below meth c s₁ [] 0 0 := Stand.of_body Bd
  have e0 : s₁.heap = h0 := by rw [← hh, Bd.state]; rfl
  have N0 := Fr.nil n0
  refine Goes.out (Goes.by (fun t k => castTop (ef1_I m ((5 : Int32))) k) ?_)
  show Goes p e below (s₁.setTop (mkF m 0 #[.val (.int (5 : Int32))] [])) _
  refine Goes.by (fun _ k => XS.iloadN X0.here hx rfl (hb hby d1_0) rfl (XS.ifYes X0.here hx rfl (pc0 := 1) (pc' := 8) rfl (hb hby d1_1) rfl ((if0 _ _).trans (feq (by decide : ¬ ((5 : Int32) = (0 : Int32)))).2) (by decide) (by decide) (XS.iloadN X0.here hx rfl (hb hby d1_8) rfl k))) ?_
  show Goes p e below (s₁.setTop (mkF m 9 #[.val (.int (5 : Int32))] [(.int (5 : Int32))])) _
  refine Goes.by (fun _ k => XS.iconst X0.here hx rfl (hb hby d1_9) (XS.icmpYes X0.here hx rfl (pc0 := 10) (pc' := 17) rfl (hb hby d1_10) rfl (feq (by decide : ¬ ((5 : Int32) = (1 : Int32)))).2 (by decide) (by decide) (XS.iloadN X0.here hx rfl (hb hby d1_17) rfl k))) ?_
  show Goes p e below (s₁.setTop (mkF m 18 #[.val (.int (5 : Int32))] [(.int (5 : Int32))])) _
  refine Goes.by (fun _ k => XS.iconst X0.here hx rfl (hb hby d1_18) (XS.icmpYes X0.here hx rfl (pc0 := 19) (pc' := 26) rfl (hb hby d1_19) rfl (feq (by decide : ¬ ((5 : Int32) = (2 : Int32)))).2 (by decide) (by decide) (XS.iloadN X0.here hx rfl (hb hby d1_26) rfl k))) ?_
  show Goes p e below (s₁.setTop (mkF m 27 #[.val (.int (5 : Int32))] [(.int (5 : Int32))])) _
  refine Goes.by (fun _ k => XS.iconst X0.here hx rfl (hb hby d1_27) (XS.icmpYes X0.here hx rfl (pc0 := 28) (pc' := 35) rfl (hb hby d1_28) rfl (feq (by decide : ¬ ((5 : Int32) = (3 : Int32)))).2 (by decide) (by decide) (XS.iloadN X0.here hx rfl (hb hby d1_35) rfl k))) ?_
  show Goes p e below (s₁.setTop (mkF m 36 #[.val (.int (5 : Int32))] [(.int (5 : Int32))])) _
  refine Goes.by (fun _ k => XS.iconst X0.here hx rfl (hb hby d1_36) (XS.icmpYes X0.here hx rfl (pc0 := 37) (pc' := 44) rfl (hb hby d1_37) rfl (feq (by decide : ¬ ((5 : Int32) = (4 : Int32)))).2 (by decide) (by decide) (XS.iloadN X0.here hx rfl (hb hby d1_44) rfl k))) ?_
  show Goes p e below (s₁.setTop (mkF m 45 #[.val (.int (5 : Int32))] [(.int (5 : Int32))])) _
  refine Goes.by (fun _ k => XS.iconst X0.here hx rfl (hb hby d1_45) (XS.icmpNo X0.here hx rfl (hb hby d1_46) rfl (teq (by decide : (5 : Int32) = (5 : Int32))).2 k)) ?_
  obtain ⟨T32, X32, e32, st32⟩ := getS2 X0 hx hZ hown (host := "") (Or.inl (hw _ (List.mem_of_getElem? (i := 40) rfl))) Via.refl e0 P.2.2.2.2.2.2.2.2.2.2.2.2.2.2.2.2.2.2.2.2.2.2.1 (g := (mkF m 49 #[.val (.int (5 : Int32))] [])) rfl (hb hby d1_49)
  refine Goes.by st32 ?_
  show Goes p e below (T32.setTop (mkF m 52 #[.val (.int (5 : Int32))] [(.ref (w 11))])) _
  obtain ⟨fs, hr, hrun, hended, hW, hsame⟩ := X32.leave (v := some (.ref (w 11))) (fun h => by rw [Bd.returns] at h; cases h)
  exact ⟨_, _, retOut X32 hx (t := (.object "com/example/knot3/knot3/definition/Attribute")) Bd.returns rfl (Or.inr (Or.inr (Or.inr (Or.inr ⟨rfl, rfl, rfl⟩)))) (hb hby d1_52) hr, hrun, hended, _, _, rfl, ⟨rfl, N0, e32⟩, ⟨_, rfl⟩, hW, hsame.mono (by decide) (by decide)⟩
set_option maxRecDepth 65536 in
set_option maxHeartbeats 40000000 in
theorem r2_13 (l : Launch) (Z : State) (a0 : Array Value) (hw : ∀ d ∈ tables_1, d.before a0 Z = true) (ws : List Jvm.Cond) (h0 : Heap) (n0 : Nat) (Z0 : n0 ≤ h0.size) (w : Nat → Addr) (P : Pins Z h0 w) :
    MetFree l (⟨"com/example/knot3/knot3/definition/Attribute", "inherited", "()Z"⟩ : MethodName) (head1 (Jvm.Cond.code (⟨"com/example/knot3/knot3/definition/Attribute", "inherited", "()Z"⟩ : MethodName) prog_25_method_6_code 1 (some .boolean) :: ws) ({ frames := 0, cells := 0, slots := 0, locals := 0 } : Room)) (fun a U => a = #[(.ref (w 11))] ∧ Z.Warmed39 U.vm ∧ U.heap = h0) (fun _ _ _ _ _ => True) (fun _ U o U' => ∃ v L, o = .returned v ∧ QP (some (.int (0 : Int32))) h0 n0 v U'.heap L ∧ FrameEnd U o U' L ({ frames := 0, cells := 0, slots := 0, locals := 0 } : Room).cells ({ frames := 0, cells := 0, slots := 0, locals := 0 } : Room).slots) := by
  refine MetFree.of_bodySF (plainFor_of_name pn1) hisR ?_
  intro p e s m args below meth c s₁ Bd hml0 hP hK
  obtain ⟨rfl, hZ, hh⟩ := hP
  have hx := Bd.exec
  have hby := Bd.bytes
  have hml : c.maxLocals = 1 := hml0
  have hown : s.vm.findClass "com/example/knot3/knot3/definition/Attribute" = some m.cls := findClass_of_methodNamed Bd.named
  have hnm := (name_of_methodNamed Bd.named Bd.method).1
  have X0 : Stand p l e ({ frames := 0, cells := 0, slots := 0, locals := 0 } : Room) s m #[(.ref (w 11))] below meth c s₁ [] 0 0 := Stand.of_body Bd
  have e0 : s₁.heap = h0 := by rw [← hh, Bd.state]; rfl
  have N0 := Fr.nil n0
  refine Goes.out (Goes.by (fun t k => castTop (ef2_R m ((w 11))) k) ?_)
  show Goes p e below (s₁.setTop (mkF m 0 #[.val (.ref (w 11))] [])) _
  refine Goes.by (fun _ k => XS.aloadN X0.here hx rfl (hb hby d2_0) rfl rfl k) ?_
  obtain ⟨T34, X34, e34, st34⟩ := getF X0 hx hZ hown (host := "") (Or.inl (hw _ (List.mem_of_getElem? (i := 13) rfl))) Via.refl e0 P.2.2.2.2.2.2.2.2.2.2.2.2.2.2.2.2.2.2.2.2.2.2.2.2.2.2.2.2.2.2.2.2.2.2.2.2.2.1 (g := (mkF m 1 #[.val (.ref (w 11))] [(.ref (w 11))])) rfl rfl (hb hby d2_1)
  refine Goes.by st34 ?_
  obtain ⟨T35, X35, e35, st35⟩ := getS2 X34 hx hZ hown (host := "") (Or.inl (hw _ (List.mem_of_getElem? (i := 17) rfl))) Via.refl e34 P.2.2.1 (g := (mkF m 4 #[.val (.ref (w 11))] [(.ref (w 5))])) rfl (hb hby d2_4)
  refine Goes.by st35 ?_
  refine Goes.by (fun _ k => Jvm.RoadKit.acmp (g := (mkF m 7 #[.val (.ref (w 11))] [(.ref (w 1)), (.ref (w 5))])) X35 hx rfl rfl rfl (pc0 := 7) (pc' := 14) (same := false) rfl (hb hby d2_7) rfl (decide_eq_false fun q => (Ne.symm (own_ne_1_5 P)) (Value.ref.inj q)) (by decide) (by decide) (XS.iconst X35.here hx rfl (hb hby d2_14) k)) ?_
  show Goes p e below (T35.setTop (mkF m 15 #[.val (.ref (w 11))] [(.int (0 : Int32))])) _
  obtain ⟨fs, hr, hrun, hended, hW, hsame⟩ := X35.leave (v := some (.int (0 : Int32))) (fun h => by rw [Bd.returns] at h; cases h)
  exact ⟨_, _, retN X35 hx (t := .boolean) Bd.returns (by simp) (hb hby d2_15) hr, hrun, hended, _, _, rfl, ⟨rfl, N0, e35⟩, ⟨_, rfl⟩, hW, hsame.mono (by decide) (by decide)⟩
set_option maxRecDepth 65536 in
set_option maxHeartbeats 40000000 in
theorem r1_14 (l : Launch) (Z : State) (a0 : Array Value) (hw : ∀ d ∈ tables_1, d.before a0 Z = true) (ws : List Jvm.Cond) (h0 : Heap) (n0 : Nat) (Z0 : n0 ≤ h0.size) (w : Nat → Addr) (P : Pins Z h0 w) :
    MetFree l (⟨"com/example/knot3/knot3/definition/AttributeInheritedPinLaw", "pick", "(I)Lcom/example/knot3/knot3/definition/Attribute;"⟩ : MethodName) (head1 (Jvm.Cond.code (⟨"com/example/knot3/knot3/definition/AttributeInheritedPinLaw", "pick", "(I)Lcom/example/knot3/knot3/definition/Attribute;"⟩ : MethodName) method_2_code 1 (some (.object "com/example/knot3/knot3/definition/Attribute")) :: ws) ({ frames := 0, cells := 0, slots := 0, locals := 0 } : Room)) (fun a U => a = #[(.int (6 : Int32))] ∧ Z.Warmed39 U.vm ∧ U.heap = h0) (fun _ _ _ _ _ => True) (fun _ U o U' => ∃ v L, o = .returned v ∧ QP (some (.ref (w 12))) h0 n0 v U'.heap L ∧ FrameEnd U o U' L ({ frames := 0, cells := 0, slots := 0, locals := 0 } : Room).cells ({ frames := 0, cells := 0, slots := 0, locals := 0 } : Room).slots) := by
  refine MetFree.of_bodySF (plainFor_of_name pn0) hisR ?_
  intro p e s m args below meth c s₁ Bd hml0 hP hK
  obtain ⟨rfl, hZ, hh⟩ := hP
  have hx := Bd.exec
  have hby := Bd.bytes
  have hml : c.maxLocals = 1 := hml0
  have hown : s.vm.findClass "com/example/knot3/knot3/definition/AttributeInheritedPinLaw" = some m.cls := findClass_of_methodNamed Bd.named
  have hnm := (name_of_methodNamed Bd.named Bd.method).1
  have X0 : Stand p l e ({ frames := 0, cells := 0, slots := 0, locals := 0 } : Room) s m #[(.int (6 : Int32))] below meth c s₁ [] 0 0 := Stand.of_body Bd
  have e0 : s₁.heap = h0 := by rw [← hh, Bd.state]; rfl
  have N0 := Fr.nil n0
  refine Goes.out (Goes.by (fun t k => castTop (ef1_I m ((6 : Int32))) k) ?_)
  show Goes p e below (s₁.setTop (mkF m 0 #[.val (.int (6 : Int32))] [])) _
  refine Goes.by (fun _ k => XS.iloadN X0.here hx rfl (hb hby d1_0) rfl (XS.ifYes X0.here hx rfl (pc0 := 1) (pc' := 8) rfl (hb hby d1_1) rfl ((if0 _ _).trans (feq (by decide : ¬ ((6 : Int32) = (0 : Int32)))).2) (by decide) (by decide) (XS.iloadN X0.here hx rfl (hb hby d1_8) rfl k))) ?_
  show Goes p e below (s₁.setTop (mkF m 9 #[.val (.int (6 : Int32))] [(.int (6 : Int32))])) _
  refine Goes.by (fun _ k => XS.iconst X0.here hx rfl (hb hby d1_9) (XS.icmpYes X0.here hx rfl (pc0 := 10) (pc' := 17) rfl (hb hby d1_10) rfl (feq (by decide : ¬ ((6 : Int32) = (1 : Int32)))).2 (by decide) (by decide) (XS.iloadN X0.here hx rfl (hb hby d1_17) rfl k))) ?_
  show Goes p e below (s₁.setTop (mkF m 18 #[.val (.int (6 : Int32))] [(.int (6 : Int32))])) _
  refine Goes.by (fun _ k => XS.iconst X0.here hx rfl (hb hby d1_18) (XS.icmpYes X0.here hx rfl (pc0 := 19) (pc' := 26) rfl (hb hby d1_19) rfl (feq (by decide : ¬ ((6 : Int32) = (2 : Int32)))).2 (by decide) (by decide) (XS.iloadN X0.here hx rfl (hb hby d1_26) rfl k))) ?_
  show Goes p e below (s₁.setTop (mkF m 27 #[.val (.int (6 : Int32))] [(.int (6 : Int32))])) _
  refine Goes.by (fun _ k => XS.iconst X0.here hx rfl (hb hby d1_27) (XS.icmpYes X0.here hx rfl (pc0 := 28) (pc' := 35) rfl (hb hby d1_28) rfl (feq (by decide : ¬ ((6 : Int32) = (3 : Int32)))).2 (by decide) (by decide) (XS.iloadN X0.here hx rfl (hb hby d1_35) rfl k))) ?_
  show Goes p e below (s₁.setTop (mkF m 36 #[.val (.int (6 : Int32))] [(.int (6 : Int32))])) _
  refine Goes.by (fun _ k => XS.iconst X0.here hx rfl (hb hby d1_36) (XS.icmpYes X0.here hx rfl (pc0 := 37) (pc' := 44) rfl (hb hby d1_37) rfl (feq (by decide : ¬ ((6 : Int32) = (4 : Int32)))).2 (by decide) (by decide) (XS.iloadN X0.here hx rfl (hb hby d1_44) rfl k))) ?_
  show Goes p e below (s₁.setTop (mkF m 45 #[.val (.int (6 : Int32))] [(.int (6 : Int32))])) _
  refine Goes.by (fun _ k => XS.iconst X0.here hx rfl (hb hby d1_45) (XS.icmpYes X0.here hx rfl (pc0 := 46) (pc' := 53) rfl (hb hby d1_46) rfl (feq (by decide : ¬ ((6 : Int32) = (5 : Int32)))).2 (by decide) (by decide) (XS.iloadN X0.here hx rfl (hb hby d1_53) rfl k))) ?_
  show Goes p e below (s₁.setTop (mkF m 54 #[.val (.int (6 : Int32))] [(.int (6 : Int32))])) _
  refine Goes.by (fun _ k => XS.bipush X0.here hx rfl (hb hby d1_54) (XS.icmpNo X0.here hx rfl (hb hby d1_56) rfl (teq (by decide : (6 : Int32) = (6 : Int32))).2 k)) ?_
  obtain ⟨T37, X37, e37, st37⟩ := getS2 X0 hx hZ hown (host := "") (Or.inl (hw _ (List.mem_of_getElem? (i := 42) rfl))) Via.refl e0 P.2.2.2.2.2.2.2.2.2.2.2.2.2.2.2.2.2.2.2.2.2.2.2.2.1 (g := (mkF m 59 #[.val (.int (6 : Int32))] [])) rfl (hb hby d1_59)
  refine Goes.by st37 ?_
  show Goes p e below (T37.setTop (mkF m 62 #[.val (.int (6 : Int32))] [(.ref (w 12))])) _
  obtain ⟨fs, hr, hrun, hended, hW, hsame⟩ := X37.leave (v := some (.ref (w 12))) (fun h => by rw [Bd.returns] at h; cases h)
  exact ⟨_, _, retOut X37 hx (t := (.object "com/example/knot3/knot3/definition/Attribute")) Bd.returns rfl (Or.inr (Or.inr (Or.inr (Or.inr ⟨rfl, rfl, rfl⟩)))) (hb hby d1_62) hr, hrun, hended, _, _, rfl, ⟨rfl, N0, e37⟩, ⟨_, rfl⟩, hW, hsame.mono (by decide) (by decide)⟩
set_option maxRecDepth 65536 in
set_option maxHeartbeats 40000000 in
theorem r2_15 (l : Launch) (Z : State) (a0 : Array Value) (hw : ∀ d ∈ tables_1, d.before a0 Z = true) (ws : List Jvm.Cond) (h0 : Heap) (n0 : Nat) (Z0 : n0 ≤ h0.size) (w : Nat → Addr) (P : Pins Z h0 w) :
    MetFree l (⟨"com/example/knot3/knot3/definition/Attribute", "inherited", "()Z"⟩ : MethodName) (head1 (Jvm.Cond.code (⟨"com/example/knot3/knot3/definition/Attribute", "inherited", "()Z"⟩ : MethodName) prog_25_method_6_code 1 (some .boolean) :: ws) ({ frames := 0, cells := 0, slots := 0, locals := 0 } : Room)) (fun a U => a = #[(.ref (w 12))] ∧ Z.Warmed39 U.vm ∧ U.heap = h0) (fun _ _ _ _ _ => True) (fun _ U o U' => ∃ v L, o = .returned v ∧ QP (some (.int (1 : Int32))) h0 n0 v U'.heap L ∧ FrameEnd U o U' L ({ frames := 0, cells := 0, slots := 0, locals := 0 } : Room).cells ({ frames := 0, cells := 0, slots := 0, locals := 0 } : Room).slots) := by
  refine MetFree.of_bodySF (plainFor_of_name pn1) hisR ?_
  intro p e s m args below meth c s₁ Bd hml0 hP hK
  obtain ⟨rfl, hZ, hh⟩ := hP
  have hx := Bd.exec
  have hby := Bd.bytes
  have hml : c.maxLocals = 1 := hml0
  have hown : s.vm.findClass "com/example/knot3/knot3/definition/Attribute" = some m.cls := findClass_of_methodNamed Bd.named
  have hnm := (name_of_methodNamed Bd.named Bd.method).1
  have X0 : Stand p l e ({ frames := 0, cells := 0, slots := 0, locals := 0 } : Room) s m #[(.ref (w 12))] below meth c s₁ [] 0 0 := Stand.of_body Bd
  have e0 : s₁.heap = h0 := by rw [← hh, Bd.state]; rfl
  have N0 := Fr.nil n0
  refine Goes.out (Goes.by (fun t k => castTop (ef2_R m ((w 12))) k) ?_)
  show Goes p e below (s₁.setTop (mkF m 0 #[.val (.ref (w 12))] [])) _
  refine Goes.by (fun _ k => XS.aloadN X0.here hx rfl (hb hby d2_0) rfl rfl k) ?_
  obtain ⟨T39, X39, e39, st39⟩ := getF X0 hx hZ hown (host := "") (Or.inl (hw _ (List.mem_of_getElem? (i := 13) rfl))) Via.refl e0 P.2.2.2.2.2.2.2.2.2.2.2.2.2.2.2.2.2.2.2.2.2.2.2.2.2.2.2.2.2.2.2.2.2.2.2.2.2.2 (g := (mkF m 1 #[.val (.ref (w 12))] [(.ref (w 12))])) rfl rfl (hb hby d2_1)
  refine Goes.by st39 ?_
  obtain ⟨T40, X40, e40, st40⟩ := getS2 X39 hx hZ hown (host := "") (Or.inl (hw _ (List.mem_of_getElem? (i := 17) rfl))) Via.refl e39 P.2.2.1 (g := (mkF m 4 #[.val (.ref (w 12))] [(.ref (w 1))])) rfl (hb hby d2_4)
  refine Goes.by st40 ?_
  refine Goes.by (fun _ k => Jvm.RoadKit.acmp (g := (mkF m 7 #[.val (.ref (w 12))] [(.ref (w 1)), (.ref (w 1))])) X40 hx rfl rfl rfl (pc0 := 7) (pc' := 10) (same := true) rfl (hb hby d2_7) rfl (decide_eq_true rfl) (by decide) (by decide) (XS.iconst X40.here hx rfl (hb hby d2_10) (XS.goto X40.here hx rfl (pc0 := 11) (pc' := 15) rfl (hb hby d2_11) (by decide) (by decide) k))) ?_
  show Goes p e below (T40.setTop (mkF m 15 #[.val (.ref (w 12))] [(.int (1 : Int32))])) _
  obtain ⟨fs, hr, hrun, hended, hW, hsame⟩ := X40.leave (v := some (.int (1 : Int32))) (fun h => by rw [Bd.returns] at h; cases h)
  exact ⟨_, _, retN X40 hx (t := .boolean) Bd.returns (by simp) (hb hby d2_15) hr, hrun, hended, _, _, rfl, ⟨rfl, N0, e40⟩, ⟨_, rfl⟩, hW, hsame.mono (by decide) (by decide)⟩
set_option maxRecDepth 65536 in
set_option maxHeartbeats 40000000 in
theorem r3_16 (l : Launch) (Z : State) (a0 : Array Value) (hw : ∀ d ∈ tables_1, d.before a0 Z = true) (ws : List Jvm.Cond) (h0 : Heap) (n0 : Nat) (Z0 : n0 ≤ h0.size) (w : Nat → Addr) (P : Pins Z h0 w) :
    MetFree l (⟨"com/example/knot3/knot3/definition/Attribute", "fileWide", "()Z"⟩ : MethodName) (head1 (Jvm.Cond.code (⟨"com/example/knot3/knot3/definition/Attribute", "fileWide", "()Z"⟩ : MethodName) prog_25_method_5_code 1 (some .boolean) :: ws) ({ frames := 0, cells := 0, slots := 0, locals := 0 } : Room)) (fun a U => a = #[(.ref (w 12))] ∧ Z.Warmed39 U.vm ∧ U.heap = h0) (fun _ _ _ _ _ => True) (fun _ U o U' => ∃ v L, o = .returned v ∧ QP (some (.int (0 : Int32))) h0 n0 v U'.heap L ∧ FrameEnd U o U' L ({ frames := 0, cells := 0, slots := 0, locals := 0 } : Room).cells ({ frames := 0, cells := 0, slots := 0, locals := 0 } : Room).slots) := by
  refine MetFree.of_bodySF (plainFor_of_name pn1) hisR ?_
  intro p e s m args below meth c s₁ Bd hml0 hP hK
  obtain ⟨rfl, hZ, hh⟩ := hP
  have hx := Bd.exec
  have hby := Bd.bytes
  have hml : c.maxLocals = 1 := hml0
  have hown : s.vm.findClass "com/example/knot3/knot3/definition/Attribute" = some m.cls := findClass_of_methodNamed Bd.named
  have hnm := (name_of_methodNamed Bd.named Bd.method).1
  have X0 : Stand p l e ({ frames := 0, cells := 0, slots := 0, locals := 0 } : Room) s m #[(.ref (w 12))] below meth c s₁ [] 0 0 := Stand.of_body Bd
  have e0 : s₁.heap = h0 := by rw [← hh, Bd.state]; rfl
  have N0 := Fr.nil n0
  refine Goes.out (Goes.by (fun t k => castTop (ef3_R m ((w 12))) k) ?_)
  show Goes p e below (s₁.setTop (mkF m 0 #[.val (.ref (w 12))] [])) _
  refine Goes.by (fun _ k => XS.aloadN X0.here hx rfl (hb hby d3_0) rfl rfl k) ?_
  obtain ⟨T42, X42, e42, st42⟩ := getF X0 hx hZ hown (host := "") (Or.inl (hw _ (List.mem_of_getElem? (i := 13) rfl))) Via.refl e0 P.2.2.2.2.2.2.2.2.2.2.2.2.2.2.2.2.2.2.2.2.2.2.2.2.2.2.2.2.2.2.2.2.2.2.2.2.2.2 (g := (mkF m 1 #[.val (.ref (w 12))] [(.ref (w 12))])) rfl rfl (hb hby d3_1)
  refine Goes.by st42 ?_
  obtain ⟨T43, X43, e43, st43⟩ := getS2 X42 hx hZ hown (host := "") (Or.inl (hw _ (List.mem_of_getElem? (i := 23) rfl))) Via.refl e42 P.2.2.2.2.1 (g := (mkF m 4 #[.val (.ref (w 12))] [(.ref (w 1))])) rfl (hb hby d3_4)
  refine Goes.by st43 ?_
  refine Goes.by (fun _ k => Jvm.RoadKit.acmp (g := (mkF m 7 #[.val (.ref (w 12))] [(.ref (w 2)), (.ref (w 1))])) X43 hx rfl rfl rfl (pc0 := 7) (pc' := 14) (same := false) rfl (hb hby d3_7) rfl (decide_eq_false fun q => (own_ne_1_2 P) (Value.ref.inj q)) (by decide) (by decide) (XS.iconst X43.here hx rfl (hb hby d3_14) k)) ?_
  show Goes p e below (T43.setTop (mkF m 15 #[.val (.ref (w 12))] [(.int (0 : Int32))])) _
  obtain ⟨fs, hr, hrun, hended, hW, hsame⟩ := X43.leave (v := some (.int (0 : Int32))) (fun h => by rw [Bd.returns] at h; cases h)
  exact ⟨_, _, retN X43 hx (t := .boolean) Bd.returns (by simp) (hb hby d3_15) hr, hrun, hended, _, _, rfl, ⟨rfl, N0, e43⟩, ⟨_, rfl⟩, hW, hsame.mono (by decide) (by decide)⟩
set_option maxRecDepth 65536 in
set_option maxHeartbeats 40000000 in
theorem r1_17 (l : Launch) (Z : State) (a0 : Array Value) (hw : ∀ d ∈ tables_1, d.before a0 Z = true) (ws : List Jvm.Cond) (h0 : Heap) (n0 : Nat) (Z0 : n0 ≤ h0.size) (w : Nat → Addr) (P : Pins Z h0 w) :
    MetFree l (⟨"com/example/knot3/knot3/definition/AttributeInheritedPinLaw", "pick", "(I)Lcom/example/knot3/knot3/definition/Attribute;"⟩ : MethodName) (head1 (Jvm.Cond.code (⟨"com/example/knot3/knot3/definition/AttributeInheritedPinLaw", "pick", "(I)Lcom/example/knot3/knot3/definition/Attribute;"⟩ : MethodName) method_2_code 1 (some (.object "com/example/knot3/knot3/definition/Attribute")) :: ws) ({ frames := 0, cells := 0, slots := 0, locals := 0 } : Room)) (fun a U => a = #[(.int (7 : Int32))] ∧ Z.Warmed39 U.vm ∧ U.heap = h0) (fun _ _ _ _ _ => True) (fun _ U o U' => ∃ v L, o = .returned v ∧ QP (some (.ref (w 7))) h0 n0 v U'.heap L ∧ FrameEnd U o U' L ({ frames := 0, cells := 0, slots := 0, locals := 0 } : Room).cells ({ frames := 0, cells := 0, slots := 0, locals := 0 } : Room).slots) := by
  refine MetFree.of_bodySF (plainFor_of_name pn0) hisR ?_
  intro p e s m args below meth c s₁ Bd hml0 hP hK
  obtain ⟨rfl, hZ, hh⟩ := hP
  have hx := Bd.exec
  have hby := Bd.bytes
  have hml : c.maxLocals = 1 := hml0
  have hown : s.vm.findClass "com/example/knot3/knot3/definition/AttributeInheritedPinLaw" = some m.cls := findClass_of_methodNamed Bd.named
  have hnm := (name_of_methodNamed Bd.named Bd.method).1
  have X0 : Stand p l e ({ frames := 0, cells := 0, slots := 0, locals := 0 } : Room) s m #[(.int (7 : Int32))] below meth c s₁ [] 0 0 := Stand.of_body Bd
  have e0 : s₁.heap = h0 := by rw [← hh, Bd.state]; rfl
  have N0 := Fr.nil n0
  refine Goes.out (Goes.by (fun t k => castTop (ef1_I m ((7 : Int32))) k) ?_)
  show Goes p e below (s₁.setTop (mkF m 0 #[.val (.int (7 : Int32))] [])) _
  refine Goes.by (fun _ k => XS.iloadN X0.here hx rfl (hb hby d1_0) rfl (XS.ifYes X0.here hx rfl (pc0 := 1) (pc' := 8) rfl (hb hby d1_1) rfl ((if0 _ _).trans (feq (by decide : ¬ ((7 : Int32) = (0 : Int32)))).2) (by decide) (by decide) (XS.iloadN X0.here hx rfl (hb hby d1_8) rfl k))) ?_
  show Goes p e below (s₁.setTop (mkF m 9 #[.val (.int (7 : Int32))] [(.int (7 : Int32))])) _
  refine Goes.by (fun _ k => XS.iconst X0.here hx rfl (hb hby d1_9) (XS.icmpYes X0.here hx rfl (pc0 := 10) (pc' := 17) rfl (hb hby d1_10) rfl (feq (by decide : ¬ ((7 : Int32) = (1 : Int32)))).2 (by decide) (by decide) (XS.iloadN X0.here hx rfl (hb hby d1_17) rfl k))) ?_
  show Goes p e below (s₁.setTop (mkF m 18 #[.val (.int (7 : Int32))] [(.int (7 : Int32))])) _
  refine Goes.by (fun _ k => XS.iconst X0.here hx rfl (hb hby d1_18) (XS.icmpYes X0.here hx rfl (pc0 := 19) (pc' := 26) rfl (hb hby d1_19) rfl (feq (by decide : ¬ ((7 : Int32) = (2 : Int32)))).2 (by decide) (by decide) (XS.iloadN X0.here hx rfl (hb hby d1_26) rfl k))) ?_
  show Goes p e below (s₁.setTop (mkF m 27 #[.val (.int (7 : Int32))] [(.int (7 : Int32))])) _
  refine Goes.by (fun _ k => XS.iconst X0.here hx rfl (hb hby d1_27) (XS.icmpYes X0.here hx rfl (pc0 := 28) (pc' := 35) rfl (hb hby d1_28) rfl (feq (by decide : ¬ ((7 : Int32) = (3 : Int32)))).2 (by decide) (by decide) (XS.iloadN X0.here hx rfl (hb hby d1_35) rfl k))) ?_
  show Goes p e below (s₁.setTop (mkF m 36 #[.val (.int (7 : Int32))] [(.int (7 : Int32))])) _
  refine Goes.by (fun _ k => XS.iconst X0.here hx rfl (hb hby d1_36) (XS.icmpYes X0.here hx rfl (pc0 := 37) (pc' := 44) rfl (hb hby d1_37) rfl (feq (by decide : ¬ ((7 : Int32) = (4 : Int32)))).2 (by decide) (by decide) (XS.iloadN X0.here hx rfl (hb hby d1_44) rfl k))) ?_
  show Goes p e below (s₁.setTop (mkF m 45 #[.val (.int (7 : Int32))] [(.int (7 : Int32))])) _
  refine Goes.by (fun _ k => XS.iconst X0.here hx rfl (hb hby d1_45) (XS.icmpYes X0.here hx rfl (pc0 := 46) (pc' := 53) rfl (hb hby d1_46) rfl (feq (by decide : ¬ ((7 : Int32) = (5 : Int32)))).2 (by decide) (by decide) (XS.iloadN X0.here hx rfl (hb hby d1_53) rfl k))) ?_
  show Goes p e below (s₁.setTop (mkF m 54 #[.val (.int (7 : Int32))] [(.int (7 : Int32))])) _
  refine Goes.by (fun _ k => XS.bipush X0.here hx rfl (hb hby d1_54) (XS.icmpYes X0.here hx rfl (pc0 := 56) (pc' := 63) rfl (hb hby d1_56) rfl (feq (by decide : ¬ ((7 : Int32) = (6 : Int32)))).2 (by decide) (by decide) (XS.iloadN X0.here hx rfl (hb hby d1_63) rfl k))) ?_
  show Goes p e below (s₁.setTop (mkF m 64 #[.val (.int (7 : Int32))] [(.int (7 : Int32))])) _
  refine Goes.by (fun _ k => XS.bipush X0.here hx rfl (hb hby d1_64) (XS.icmpNo X0.here hx rfl (hb hby d1_66) rfl (teq (by decide : (7 : Int32) = (7 : Int32))).2 k)) ?_
  obtain ⟨T45, X45, e45, st45⟩ := getS2 X0 hx hZ hown (host := "") (Or.inl (hw _ (List.mem_of_getElem? (i := 32) rfl))) Via.refl e0 P.2.2.2.2.2.2.2.2.2.2.2.2.2.2.1 (g := (mkF m 69 #[.val (.int (7 : Int32))] [])) rfl (hb hby d1_69)
  refine Goes.by st45 ?_
  show Goes p e below (T45.setTop (mkF m 72 #[.val (.int (7 : Int32))] [(.ref (w 7))])) _
  obtain ⟨fs, hr, hrun, hended, hW, hsame⟩ := X45.leave (v := some (.ref (w 7))) (fun h => by rw [Bd.returns] at h; cases h)
  exact ⟨_, _, retOut X45 hx (t := (.object "com/example/knot3/knot3/definition/Attribute")) Bd.returns rfl (Or.inr (Or.inr (Or.inr (Or.inr ⟨rfl, rfl, rfl⟩)))) (hb hby d1_72) hr, hrun, hended, _, _, rfl, ⟨rfl, N0, e45⟩, ⟨_, rfl⟩, hW, hsame.mono (by decide) (by decide)⟩
set_option maxRecDepth 65536 in
set_option maxHeartbeats 40000000 in
theorem r2_18 (l : Launch) (Z : State) (a0 : Array Value) (hw : ∀ d ∈ tables_1, d.before a0 Z = true) (ws : List Jvm.Cond) (h0 : Heap) (n0 : Nat) (Z0 : n0 ≤ h0.size) (w : Nat → Addr) (P : Pins Z h0 w) :
    MetFree l (⟨"com/example/knot3/knot3/definition/Attribute", "inherited", "()Z"⟩ : MethodName) (head1 (Jvm.Cond.code (⟨"com/example/knot3/knot3/definition/Attribute", "inherited", "()Z"⟩ : MethodName) prog_25_method_6_code 1 (some .boolean) :: ws) ({ frames := 0, cells := 0, slots := 0, locals := 0 } : Room)) (fun a U => a = #[(.ref (w 7))] ∧ Z.Warmed39 U.vm ∧ U.heap = h0) (fun _ _ _ _ _ => True) (fun _ U o U' => ∃ v L, o = .returned v ∧ QP (some (.int (1 : Int32))) h0 n0 v U'.heap L ∧ FrameEnd U o U' L ({ frames := 0, cells := 0, slots := 0, locals := 0 } : Room).cells ({ frames := 0, cells := 0, slots := 0, locals := 0 } : Room).slots) := by
  refine MetFree.of_bodySF (plainFor_of_name pn1) hisR ?_
  intro p e s m args below meth c s₁ Bd hml0 hP hK
  obtain ⟨rfl, hZ, hh⟩ := hP
  have hx := Bd.exec
  have hby := Bd.bytes
  have hml : c.maxLocals = 1 := hml0
  have hown : s.vm.findClass "com/example/knot3/knot3/definition/Attribute" = some m.cls := findClass_of_methodNamed Bd.named
  have hnm := (name_of_methodNamed Bd.named Bd.method).1
  have X0 : Stand p l e ({ frames := 0, cells := 0, slots := 0, locals := 0 } : Room) s m #[(.ref (w 7))] below meth c s₁ [] 0 0 := Stand.of_body Bd
  have e0 : s₁.heap = h0 := by rw [← hh, Bd.state]; rfl
  have N0 := Fr.nil n0
  refine Goes.out (Goes.by (fun t k => castTop (ef2_R m ((w 7))) k) ?_)
  show Goes p e below (s₁.setTop (mkF m 0 #[.val (.ref (w 7))] [])) _
  refine Goes.by (fun _ k => XS.aloadN X0.here hx rfl (hb hby d2_0) rfl rfl k) ?_
  obtain ⟨T47, X47, e47, st47⟩ := getF X0 hx hZ hown (host := "") (Or.inl (hw _ (List.mem_of_getElem? (i := 13) rfl))) Via.refl e0 P.2.2.2.2.2.2.2.2.2.2.2.2.2.2.2.2.2.2.2.2.2.2.2.2.2.2.2.2.2.2.2.2.2.1 (g := (mkF m 1 #[.val (.ref (w 7))] [(.ref (w 7))])) rfl rfl (hb hby d2_1)
  refine Goes.by st47 ?_
  obtain ⟨T48, X48, e48, st48⟩ := getS2 X47 hx hZ hown (host := "") (Or.inl (hw _ (List.mem_of_getElem? (i := 17) rfl))) Via.refl e47 P.2.2.1 (g := (mkF m 4 #[.val (.ref (w 7))] [(.ref (w 1))])) rfl (hb hby d2_4)
  refine Goes.by st48 ?_
  refine Goes.by (fun _ k => Jvm.RoadKit.acmp (g := (mkF m 7 #[.val (.ref (w 7))] [(.ref (w 1)), (.ref (w 1))])) X48 hx rfl rfl rfl (pc0 := 7) (pc' := 10) (same := true) rfl (hb hby d2_7) rfl (decide_eq_true rfl) (by decide) (by decide) (XS.iconst X48.here hx rfl (hb hby d2_10) (XS.goto X48.here hx rfl (pc0 := 11) (pc' := 15) rfl (hb hby d2_11) (by decide) (by decide) k))) ?_
  show Goes p e below (T48.setTop (mkF m 15 #[.val (.ref (w 7))] [(.int (1 : Int32))])) _
  obtain ⟨fs, hr, hrun, hended, hW, hsame⟩ := X48.leave (v := some (.int (1 : Int32))) (fun h => by rw [Bd.returns] at h; cases h)
  exact ⟨_, _, retN X48 hx (t := .boolean) Bd.returns (by simp) (hb hby d2_15) hr, hrun, hended, _, _, rfl, ⟨rfl, N0, e48⟩, ⟨_, rfl⟩, hW, hsame.mono (by decide) (by decide)⟩
set_option maxRecDepth 65536 in
set_option maxHeartbeats 40000000 in
theorem r3_19 (l : Launch) (Z : State) (a0 : Array Value) (hw : ∀ d ∈ tables_1, d.before a0 Z = true) (ws : List Jvm.Cond) (h0 : Heap) (n0 : Nat) (Z0 : n0 ≤ h0.size) (w : Nat → Addr) (P : Pins Z h0 w) :
    MetFree l (⟨"com/example/knot3/knot3/definition/Attribute", "fileWide", "()Z"⟩ : MethodName) (head1 (Jvm.Cond.code (⟨"com/example/knot3/knot3/definition/Attribute", "fileWide", "()Z"⟩ : MethodName) prog_25_method_5_code 1 (some .boolean) :: ws) ({ frames := 0, cells := 0, slots := 0, locals := 0 } : Room)) (fun a U => a = #[(.ref (w 7))] ∧ Z.Warmed39 U.vm ∧ U.heap = h0) (fun _ _ _ _ _ => True) (fun _ U o U' => ∃ v L, o = .returned v ∧ QP (some (.int (0 : Int32))) h0 n0 v U'.heap L ∧ FrameEnd U o U' L ({ frames := 0, cells := 0, slots := 0, locals := 0 } : Room).cells ({ frames := 0, cells := 0, slots := 0, locals := 0 } : Room).slots) := by
  refine MetFree.of_bodySF (plainFor_of_name pn1) hisR ?_
  intro p e s m args below meth c s₁ Bd hml0 hP hK
  obtain ⟨rfl, hZ, hh⟩ := hP
  have hx := Bd.exec
  have hby := Bd.bytes
  have hml : c.maxLocals = 1 := hml0
  have hown : s.vm.findClass "com/example/knot3/knot3/definition/Attribute" = some m.cls := findClass_of_methodNamed Bd.named
  have hnm := (name_of_methodNamed Bd.named Bd.method).1
  have X0 : Stand p l e ({ frames := 0, cells := 0, slots := 0, locals := 0 } : Room) s m #[(.ref (w 7))] below meth c s₁ [] 0 0 := Stand.of_body Bd
  have e0 : s₁.heap = h0 := by rw [← hh, Bd.state]; rfl
  have N0 := Fr.nil n0
  refine Goes.out (Goes.by (fun t k => castTop (ef3_R m ((w 7))) k) ?_)
  show Goes p e below (s₁.setTop (mkF m 0 #[.val (.ref (w 7))] [])) _
  refine Goes.by (fun _ k => XS.aloadN X0.here hx rfl (hb hby d3_0) rfl rfl k) ?_
  obtain ⟨T50, X50, e50, st50⟩ := getF X0 hx hZ hown (host := "") (Or.inl (hw _ (List.mem_of_getElem? (i := 13) rfl))) Via.refl e0 P.2.2.2.2.2.2.2.2.2.2.2.2.2.2.2.2.2.2.2.2.2.2.2.2.2.2.2.2.2.2.2.2.2.1 (g := (mkF m 1 #[.val (.ref (w 7))] [(.ref (w 7))])) rfl rfl (hb hby d3_1)
  refine Goes.by st50 ?_
  obtain ⟨T51, X51, e51, st51⟩ := getS2 X50 hx hZ hown (host := "") (Or.inl (hw _ (List.mem_of_getElem? (i := 23) rfl))) Via.refl e50 P.2.2.2.2.1 (g := (mkF m 4 #[.val (.ref (w 7))] [(.ref (w 1))])) rfl (hb hby d3_4)
  refine Goes.by st51 ?_
  refine Goes.by (fun _ k => Jvm.RoadKit.acmp (g := (mkF m 7 #[.val (.ref (w 7))] [(.ref (w 2)), (.ref (w 1))])) X51 hx rfl rfl rfl (pc0 := 7) (pc' := 14) (same := false) rfl (hb hby d3_7) rfl (decide_eq_false fun q => (own_ne_1_2 P) (Value.ref.inj q)) (by decide) (by decide) (XS.iconst X51.here hx rfl (hb hby d3_14) k)) ?_
  show Goes p e below (T51.setTop (mkF m 15 #[.val (.ref (w 7))] [(.int (0 : Int32))])) _
  obtain ⟨fs, hr, hrun, hended, hW, hsame⟩ := X51.leave (v := some (.int (0 : Int32))) (fun h => by rw [Bd.returns] at h; cases h)
  exact ⟨_, _, retN X51 hx (t := .boolean) Bd.returns (by simp) (hb hby d3_15) hr, hrun, hended, _, _, rfl, ⟨rfl, N0, e51⟩, ⟨_, rfl⟩, hW, hsame.mono (by decide) (by decide)⟩
set_option maxRecDepth 65536 in
set_option maxHeartbeats 40000000 in
theorem r1_20 (l : Launch) (Z : State) (a0 : Array Value) (hw : ∀ d ∈ tables_1, d.before a0 Z = true) (ws : List Jvm.Cond) (h0 : Heap) (n0 : Nat) (Z0 : n0 ≤ h0.size) (w : Nat → Addr) (P : Pins Z h0 w) :
    MetFree l (⟨"com/example/knot3/knot3/definition/AttributeInheritedPinLaw", "pick", "(I)Lcom/example/knot3/knot3/definition/Attribute;"⟩ : MethodName) (head1 (Jvm.Cond.code (⟨"com/example/knot3/knot3/definition/AttributeInheritedPinLaw", "pick", "(I)Lcom/example/knot3/knot3/definition/Attribute;"⟩ : MethodName) method_2_code 1 (some (.object "com/example/knot3/knot3/definition/Attribute")) :: ws) ({ frames := 0, cells := 0, slots := 0, locals := 0 } : Room)) (fun a U => a = #[(.int (8 : Int32))] ∧ Z.Warmed39 U.vm ∧ U.heap = h0) (fun _ _ _ _ _ => True) (fun _ U o U' => ∃ v L, o = .returned v ∧ QP (some (.ref (w 9))) h0 n0 v U'.heap L ∧ FrameEnd U o U' L ({ frames := 0, cells := 0, slots := 0, locals := 0 } : Room).cells ({ frames := 0, cells := 0, slots := 0, locals := 0 } : Room).slots) := by
  refine MetFree.of_bodySF (plainFor_of_name pn0) hisR ?_
  intro p e s m args below meth c s₁ Bd hml0 hP hK
  obtain ⟨rfl, hZ, hh⟩ := hP
  have hx := Bd.exec
  have hby := Bd.bytes
  have hml : c.maxLocals = 1 := hml0
  have hown : s.vm.findClass "com/example/knot3/knot3/definition/AttributeInheritedPinLaw" = some m.cls := findClass_of_methodNamed Bd.named
  have hnm := (name_of_methodNamed Bd.named Bd.method).1
  have X0 : Stand p l e ({ frames := 0, cells := 0, slots := 0, locals := 0 } : Room) s m #[(.int (8 : Int32))] below meth c s₁ [] 0 0 := Stand.of_body Bd
  have e0 : s₁.heap = h0 := by rw [← hh, Bd.state]; rfl
  have N0 := Fr.nil n0
  refine Goes.out (Goes.by (fun t k => castTop (ef1_I m ((8 : Int32))) k) ?_)
  show Goes p e below (s₁.setTop (mkF m 0 #[.val (.int (8 : Int32))] [])) _
  refine Goes.by (fun _ k => XS.iloadN X0.here hx rfl (hb hby d1_0) rfl (XS.ifYes X0.here hx rfl (pc0 := 1) (pc' := 8) rfl (hb hby d1_1) rfl ((if0 _ _).trans (feq (by decide : ¬ ((8 : Int32) = (0 : Int32)))).2) (by decide) (by decide) (XS.iloadN X0.here hx rfl (hb hby d1_8) rfl k))) ?_
  show Goes p e below (s₁.setTop (mkF m 9 #[.val (.int (8 : Int32))] [(.int (8 : Int32))])) _
  refine Goes.by (fun _ k => XS.iconst X0.here hx rfl (hb hby d1_9) (XS.icmpYes X0.here hx rfl (pc0 := 10) (pc' := 17) rfl (hb hby d1_10) rfl (feq (by decide : ¬ ((8 : Int32) = (1 : Int32)))).2 (by decide) (by decide) (XS.iloadN X0.here hx rfl (hb hby d1_17) rfl k))) ?_
  show Goes p e below (s₁.setTop (mkF m 18 #[.val (.int (8 : Int32))] [(.int (8 : Int32))])) _
  refine Goes.by (fun _ k => XS.iconst X0.here hx rfl (hb hby d1_18) (XS.icmpYes X0.here hx rfl (pc0 := 19) (pc' := 26) rfl (hb hby d1_19) rfl (feq (by decide : ¬ ((8 : Int32) = (2 : Int32)))).2 (by decide) (by decide) (XS.iloadN X0.here hx rfl (hb hby d1_26) rfl k))) ?_
  show Goes p e below (s₁.setTop (mkF m 27 #[.val (.int (8 : Int32))] [(.int (8 : Int32))])) _
  refine Goes.by (fun _ k => XS.iconst X0.here hx rfl (hb hby d1_27) (XS.icmpYes X0.here hx rfl (pc0 := 28) (pc' := 35) rfl (hb hby d1_28) rfl (feq (by decide : ¬ ((8 : Int32) = (3 : Int32)))).2 (by decide) (by decide) (XS.iloadN X0.here hx rfl (hb hby d1_35) rfl k))) ?_
  show Goes p e below (s₁.setTop (mkF m 36 #[.val (.int (8 : Int32))] [(.int (8 : Int32))])) _
  refine Goes.by (fun _ k => XS.iconst X0.here hx rfl (hb hby d1_36) (XS.icmpYes X0.here hx rfl (pc0 := 37) (pc' := 44) rfl (hb hby d1_37) rfl (feq (by decide : ¬ ((8 : Int32) = (4 : Int32)))).2 (by decide) (by decide) (XS.iloadN X0.here hx rfl (hb hby d1_44) rfl k))) ?_
  show Goes p e below (s₁.setTop (mkF m 45 #[.val (.int (8 : Int32))] [(.int (8 : Int32))])) _
  refine Goes.by (fun _ k => XS.iconst X0.here hx rfl (hb hby d1_45) (XS.icmpYes X0.here hx rfl (pc0 := 46) (pc' := 53) rfl (hb hby d1_46) rfl (feq (by decide : ¬ ((8 : Int32) = (5 : Int32)))).2 (by decide) (by decide) (XS.iloadN X0.here hx rfl (hb hby d1_53) rfl k))) ?_
  show Goes p e below (s₁.setTop (mkF m 54 #[.val (.int (8 : Int32))] [(.int (8 : Int32))])) _
  refine Goes.by (fun _ k => XS.bipush X0.here hx rfl (hb hby d1_54) (XS.icmpYes X0.here hx rfl (pc0 := 56) (pc' := 63) rfl (hb hby d1_56) rfl (feq (by decide : ¬ ((8 : Int32) = (6 : Int32)))).2 (by decide) (by decide) (XS.iloadN X0.here hx rfl (hb hby d1_63) rfl k))) ?_
  show Goes p e below (s₁.setTop (mkF m 64 #[.val (.int (8 : Int32))] [(.int (8 : Int32))])) _
  refine Goes.by (fun _ k => XS.bipush X0.here hx rfl (hb hby d1_64) (XS.icmpYes X0.here hx rfl (pc0 := 66) (pc' := 73) rfl (hb hby d1_66) rfl (feq (by decide : ¬ ((8 : Int32) = (7 : Int32)))).2 (by decide) (by decide) (XS.iloadN X0.here hx rfl (hb hby d1_73) rfl k))) ?_
  show Goes p e below (s₁.setTop (mkF m 74 #[.val (.int (8 : Int32))] [(.int (8 : Int32))])) _
  refine Goes.by (fun _ k => XS.bipush X0.here hx rfl (hb hby d1_74) (XS.icmpNo X0.here hx rfl (hb hby d1_76) rfl (teq (by decide : (8 : Int32) = (8 : Int32))).2 k)) ?_
  obtain ⟨T53, X53, e53, st53⟩ := getS2 X0 hx hZ hown (host := "") (Or.inl (hw _ (List.mem_of_getElem? (i := 36) rfl))) Via.refl e0 P.2.2.2.2.2.2.2.2.2.2.2.2.2.2.2.2.2.2.1 (g := (mkF m 79 #[.val (.int (8 : Int32))] [])) rfl (hb hby d1_79)
  refine Goes.by st53 ?_
  show Goes p e below (T53.setTop (mkF m 82 #[.val (.int (8 : Int32))] [(.ref (w 9))])) _
  obtain ⟨fs, hr, hrun, hended, hW, hsame⟩ := X53.leave (v := some (.ref (w 9))) (fun h => by rw [Bd.returns] at h; cases h)
  exact ⟨_, _, retOut X53 hx (t := (.object "com/example/knot3/knot3/definition/Attribute")) Bd.returns rfl (Or.inr (Or.inr (Or.inr (Or.inr ⟨rfl, rfl, rfl⟩)))) (hb hby d1_82) hr, hrun, hended, _, _, rfl, ⟨rfl, N0, e53⟩, ⟨_, rfl⟩, hW, hsame.mono (by decide) (by decide)⟩
set_option maxRecDepth 65536 in
set_option maxHeartbeats 40000000 in
theorem r2_21 (l : Launch) (Z : State) (a0 : Array Value) (hw : ∀ d ∈ tables_1, d.before a0 Z = true) (ws : List Jvm.Cond) (h0 : Heap) (n0 : Nat) (Z0 : n0 ≤ h0.size) (w : Nat → Addr) (P : Pins Z h0 w) :
    MetFree l (⟨"com/example/knot3/knot3/definition/Attribute", "inherited", "()Z"⟩ : MethodName) (head1 (Jvm.Cond.code (⟨"com/example/knot3/knot3/definition/Attribute", "inherited", "()Z"⟩ : MethodName) prog_25_method_6_code 1 (some .boolean) :: ws) ({ frames := 0, cells := 0, slots := 0, locals := 0 } : Room)) (fun a U => a = #[(.ref (w 9))] ∧ Z.Warmed39 U.vm ∧ U.heap = h0) (fun _ _ _ _ _ => True) (fun _ U o U' => ∃ v L, o = .returned v ∧ QP (some (.int (0 : Int32))) h0 n0 v U'.heap L ∧ FrameEnd U o U' L ({ frames := 0, cells := 0, slots := 0, locals := 0 } : Room).cells ({ frames := 0, cells := 0, slots := 0, locals := 0 } : Room).slots) := by
  refine MetFree.of_bodySF (plainFor_of_name pn1) hisR ?_
  intro p e s m args below meth c s₁ Bd hml0 hP hK
  obtain ⟨rfl, hZ, hh⟩ := hP
  have hx := Bd.exec
  have hby := Bd.bytes
  have hml : c.maxLocals = 1 := hml0
  have hown : s.vm.findClass "com/example/knot3/knot3/definition/Attribute" = some m.cls := findClass_of_methodNamed Bd.named
  have hnm := (name_of_methodNamed Bd.named Bd.method).1
  have X0 : Stand p l e ({ frames := 0, cells := 0, slots := 0, locals := 0 } : Room) s m #[(.ref (w 9))] below meth c s₁ [] 0 0 := Stand.of_body Bd
  have e0 : s₁.heap = h0 := by rw [← hh, Bd.state]; rfl
  have N0 := Fr.nil n0
  refine Goes.out (Goes.by (fun t k => castTop (ef2_R m ((w 9))) k) ?_)
  show Goes p e below (s₁.setTop (mkF m 0 #[.val (.ref (w 9))] [])) _
  refine Goes.by (fun _ k => XS.aloadN X0.here hx rfl (hb hby d2_0) rfl rfl k) ?_
  obtain ⟨T55, X55, e55, st55⟩ := getF X0 hx hZ hown (host := "") (Or.inl (hw _ (List.mem_of_getElem? (i := 13) rfl))) Via.refl e0 P.2.2.2.2.2.2.2.2.2.2.2.2.2.2.2.2.2.2.2.2.2.2.2.2.2.2.2.2.2.2.2.2.2.2.2.1 (g := (mkF m 1 #[.val (.ref (w 9))] [(.ref (w 9))])) rfl rfl (hb hby d2_1)
  refine Goes.by st55 ?_
  obtain ⟨T56, X56, e56, st56⟩ := getS2 X55 hx hZ hown (host := "") (Or.inl (hw _ (List.mem_of_getElem? (i := 17) rfl))) Via.refl e55 P.2.2.1 (g := (mkF m 4 #[.val (.ref (w 9))] [(.ref (w 2))])) rfl (hb hby d2_4)
  refine Goes.by st56 ?_
  refine Goes.by (fun _ k => Jvm.RoadKit.acmp (g := (mkF m 7 #[.val (.ref (w 9))] [(.ref (w 1)), (.ref (w 2))])) X56 hx rfl rfl rfl (pc0 := 7) (pc' := 14) (same := false) rfl (hb hby d2_7) rfl (decide_eq_false fun q => (Ne.symm (own_ne_1_2 P)) (Value.ref.inj q)) (by decide) (by decide) (XS.iconst X56.here hx rfl (hb hby d2_14) k)) ?_
  show Goes p e below (T56.setTop (mkF m 15 #[.val (.ref (w 9))] [(.int (0 : Int32))])) _
  obtain ⟨fs, hr, hrun, hended, hW, hsame⟩ := X56.leave (v := some (.int (0 : Int32))) (fun h => by rw [Bd.returns] at h; cases h)
  exact ⟨_, _, retN X56 hx (t := .boolean) Bd.returns (by simp) (hb hby d2_15) hr, hrun, hended, _, _, rfl, ⟨rfl, N0, e56⟩, ⟨_, rfl⟩, hW, hsame.mono (by decide) (by decide)⟩
set_option maxRecDepth 65536 in
set_option maxHeartbeats 40000000 in
theorem r1_22 (l : Launch) (Z : State) (a0 : Array Value) (hw : ∀ d ∈ tables_1, d.before a0 Z = true) (ws : List Jvm.Cond) (h0 : Heap) (n0 : Nat) (Z0 : n0 ≤ h0.size) (w : Nat → Addr) (P : Pins Z h0 w) :
    MetFree l (⟨"com/example/knot3/knot3/definition/AttributeInheritedPinLaw", "pick", "(I)Lcom/example/knot3/knot3/definition/Attribute;"⟩ : MethodName) (head1 (Jvm.Cond.code (⟨"com/example/knot3/knot3/definition/AttributeInheritedPinLaw", "pick", "(I)Lcom/example/knot3/knot3/definition/Attribute;"⟩ : MethodName) method_2_code 1 (some (.object "com/example/knot3/knot3/definition/Attribute")) :: ws) ({ frames := 0, cells := 0, slots := 0, locals := 0 } : Room)) (fun a U => a = #[(.int (9 : Int32))] ∧ Z.Warmed39 U.vm ∧ U.heap = h0) (fun _ _ _ _ _ => True) (fun _ U o U' => ∃ v L, o = .returned v ∧ QP (some (.ref (w 10))) h0 n0 v U'.heap L ∧ FrameEnd U o U' L ({ frames := 0, cells := 0, slots := 0, locals := 0 } : Room).cells ({ frames := 0, cells := 0, slots := 0, locals := 0 } : Room).slots) := by
  refine MetFree.of_bodySF (plainFor_of_name pn0) hisR ?_
  intro p e s m args below meth c s₁ Bd hml0 hP hK
  obtain ⟨rfl, hZ, hh⟩ := hP
  have hx := Bd.exec
  have hby := Bd.bytes
  have hml : c.maxLocals = 1 := hml0
  have hown : s.vm.findClass "com/example/knot3/knot3/definition/AttributeInheritedPinLaw" = some m.cls := findClass_of_methodNamed Bd.named
  have hnm := (name_of_methodNamed Bd.named Bd.method).1
  have X0 : Stand p l e ({ frames := 0, cells := 0, slots := 0, locals := 0 } : Room) s m #[(.int (9 : Int32))] below meth c s₁ [] 0 0 := Stand.of_body Bd
  have e0 : s₁.heap = h0 := by rw [← hh, Bd.state]; rfl
  have N0 := Fr.nil n0
  refine Goes.out (Goes.by (fun t k => castTop (ef1_I m ((9 : Int32))) k) ?_)
  show Goes p e below (s₁.setTop (mkF m 0 #[.val (.int (9 : Int32))] [])) _
  refine Goes.by (fun _ k => XS.iloadN X0.here hx rfl (hb hby d1_0) rfl (XS.ifYes X0.here hx rfl (pc0 := 1) (pc' := 8) rfl (hb hby d1_1) rfl ((if0 _ _).trans (feq (by decide : ¬ ((9 : Int32) = (0 : Int32)))).2) (by decide) (by decide) (XS.iloadN X0.here hx rfl (hb hby d1_8) rfl k))) ?_
  show Goes p e below (s₁.setTop (mkF m 9 #[.val (.int (9 : Int32))] [(.int (9 : Int32))])) _
  refine Goes.by (fun _ k => XS.iconst X0.here hx rfl (hb hby d1_9) (XS.icmpYes X0.here hx rfl (pc0 := 10) (pc' := 17) rfl (hb hby d1_10) rfl (feq (by decide : ¬ ((9 : Int32) = (1 : Int32)))).2 (by decide) (by decide) (XS.iloadN X0.here hx rfl (hb hby d1_17) rfl k))) ?_
  show Goes p e below (s₁.setTop (mkF m 18 #[.val (.int (9 : Int32))] [(.int (9 : Int32))])) _
  refine Goes.by (fun _ k => XS.iconst X0.here hx rfl (hb hby d1_18) (XS.icmpYes X0.here hx rfl (pc0 := 19) (pc' := 26) rfl (hb hby d1_19) rfl (feq (by decide : ¬ ((9 : Int32) = (2 : Int32)))).2 (by decide) (by decide) (XS.iloadN X0.here hx rfl (hb hby d1_26) rfl k))) ?_
  show Goes p e below (s₁.setTop (mkF m 27 #[.val (.int (9 : Int32))] [(.int (9 : Int32))])) _
  refine Goes.by (fun _ k => XS.iconst X0.here hx rfl (hb hby d1_27) (XS.icmpYes X0.here hx rfl (pc0 := 28) (pc' := 35) rfl (hb hby d1_28) rfl (feq (by decide : ¬ ((9 : Int32) = (3 : Int32)))).2 (by decide) (by decide) (XS.iloadN X0.here hx rfl (hb hby d1_35) rfl k))) ?_
  show Goes p e below (s₁.setTop (mkF m 36 #[.val (.int (9 : Int32))] [(.int (9 : Int32))])) _
  refine Goes.by (fun _ k => XS.iconst X0.here hx rfl (hb hby d1_36) (XS.icmpYes X0.here hx rfl (pc0 := 37) (pc' := 44) rfl (hb hby d1_37) rfl (feq (by decide : ¬ ((9 : Int32) = (4 : Int32)))).2 (by decide) (by decide) (XS.iloadN X0.here hx rfl (hb hby d1_44) rfl k))) ?_
  show Goes p e below (s₁.setTop (mkF m 45 #[.val (.int (9 : Int32))] [(.int (9 : Int32))])) _
  refine Goes.by (fun _ k => XS.iconst X0.here hx rfl (hb hby d1_45) (XS.icmpYes X0.here hx rfl (pc0 := 46) (pc' := 53) rfl (hb hby d1_46) rfl (feq (by decide : ¬ ((9 : Int32) = (5 : Int32)))).2 (by decide) (by decide) (XS.iloadN X0.here hx rfl (hb hby d1_53) rfl k))) ?_
  show Goes p e below (s₁.setTop (mkF m 54 #[.val (.int (9 : Int32))] [(.int (9 : Int32))])) _
  refine Goes.by (fun _ k => XS.bipush X0.here hx rfl (hb hby d1_54) (XS.icmpYes X0.here hx rfl (pc0 := 56) (pc' := 63) rfl (hb hby d1_56) rfl (feq (by decide : ¬ ((9 : Int32) = (6 : Int32)))).2 (by decide) (by decide) (XS.iloadN X0.here hx rfl (hb hby d1_63) rfl k))) ?_
  show Goes p e below (s₁.setTop (mkF m 64 #[.val (.int (9 : Int32))] [(.int (9 : Int32))])) _
  refine Goes.by (fun _ k => XS.bipush X0.here hx rfl (hb hby d1_64) (XS.icmpYes X0.here hx rfl (pc0 := 66) (pc' := 73) rfl (hb hby d1_66) rfl (feq (by decide : ¬ ((9 : Int32) = (7 : Int32)))).2 (by decide) (by decide) (XS.iloadN X0.here hx rfl (hb hby d1_73) rfl k))) ?_
  show Goes p e below (s₁.setTop (mkF m 74 #[.val (.int (9 : Int32))] [(.int (9 : Int32))])) _
  refine Goes.by (fun _ k => XS.bipush X0.here hx rfl (hb hby d1_74) (XS.icmpYes X0.here hx rfl (pc0 := 76) (pc' := 83) rfl (hb hby d1_76) rfl (feq (by decide : ¬ ((9 : Int32) = (8 : Int32)))).2 (by decide) (by decide) k)) ?_
  obtain ⟨T58, X58, e58, st58⟩ := getS2 X0 hx hZ hown (host := "") (Or.inl (hw _ (List.mem_of_getElem? (i := 38) rfl))) Via.refl e0 P.2.2.2.2.2.2.2.2.2.2.2.2.2.2.2.2.2.2.2.2.1 (g := (mkF m 83 #[.val (.int (9 : Int32))] [])) rfl (hb hby d1_83)
  refine Goes.by st58 ?_
  show Goes p e below (T58.setTop (mkF m 86 #[.val (.int (9 : Int32))] [(.ref (w 10))])) _
  obtain ⟨fs, hr, hrun, hended, hW, hsame⟩ := X58.leave (v := some (.ref (w 10))) (fun h => by rw [Bd.returns] at h; cases h)
  exact ⟨_, _, retOut X58 hx (t := (.object "com/example/knot3/knot3/definition/Attribute")) Bd.returns rfl (Or.inr (Or.inr (Or.inr (Or.inr ⟨rfl, rfl, rfl⟩)))) (hb hby d1_86) hr, hrun, hended, _, _, rfl, ⟨rfl, N0, e58⟩, ⟨_, rfl⟩, hW, hsame.mono (by decide) (by decide)⟩
set_option maxRecDepth 65536 in
set_option maxHeartbeats 40000000 in
theorem r2_23 (l : Launch) (Z : State) (a0 : Array Value) (hw : ∀ d ∈ tables_1, d.before a0 Z = true) (ws : List Jvm.Cond) (h0 : Heap) (n0 : Nat) (Z0 : n0 ≤ h0.size) (w : Nat → Addr) (P : Pins Z h0 w) :
    MetFree l (⟨"com/example/knot3/knot3/definition/Attribute", "inherited", "()Z"⟩ : MethodName) (head1 (Jvm.Cond.code (⟨"com/example/knot3/knot3/definition/Attribute", "inherited", "()Z"⟩ : MethodName) prog_25_method_6_code 1 (some .boolean) :: ws) ({ frames := 0, cells := 0, slots := 0, locals := 0 } : Room)) (fun a U => a = #[(.ref (w 10))] ∧ Z.Warmed39 U.vm ∧ U.heap = h0) (fun _ _ _ _ _ => True) (fun _ U o U' => ∃ v L, o = .returned v ∧ QP (some (.int (0 : Int32))) h0 n0 v U'.heap L ∧ FrameEnd U o U' L ({ frames := 0, cells := 0, slots := 0, locals := 0 } : Room).cells ({ frames := 0, cells := 0, slots := 0, locals := 0 } : Room).slots) := by
  refine MetFree.of_bodySF (plainFor_of_name pn1) hisR ?_
  intro p e s m args below meth c s₁ Bd hml0 hP hK
  obtain ⟨rfl, hZ, hh⟩ := hP
  have hx := Bd.exec
  have hby := Bd.bytes
  have hml : c.maxLocals = 1 := hml0
  have hown : s.vm.findClass "com/example/knot3/knot3/definition/Attribute" = some m.cls := findClass_of_methodNamed Bd.named
  have hnm := (name_of_methodNamed Bd.named Bd.method).1
  have X0 : Stand p l e ({ frames := 0, cells := 0, slots := 0, locals := 0 } : Room) s m #[(.ref (w 10))] below meth c s₁ [] 0 0 := Stand.of_body Bd
  have e0 : s₁.heap = h0 := by rw [← hh, Bd.state]; rfl
  have N0 := Fr.nil n0
  refine Goes.out (Goes.by (fun t k => castTop (ef2_R m ((w 10))) k) ?_)
  show Goes p e below (s₁.setTop (mkF m 0 #[.val (.ref (w 10))] [])) _
  refine Goes.by (fun _ k => XS.aloadN X0.here hx rfl (hb hby d2_0) rfl rfl k) ?_
  obtain ⟨T60, X60, e60, st60⟩ := getF X0 hx hZ hown (host := "") (Or.inl (hw _ (List.mem_of_getElem? (i := 13) rfl))) Via.refl e0 P.2.2.2.2.2.2.2.2.2.2.2.2.2.2.2.2.2.2.2.2.2.2.2.2.2.2.2.2.2.2.2.2.2.2.2.2.1 (g := (mkF m 1 #[.val (.ref (w 10))] [(.ref (w 10))])) rfl rfl (hb hby d2_1)
  refine Goes.by st60 ?_
  obtain ⟨T61, X61, e61, st61⟩ := getS2 X60 hx hZ hown (host := "") (Or.inl (hw _ (List.mem_of_getElem? (i := 17) rfl))) Via.refl e60 P.2.2.1 (g := (mkF m 4 #[.val (.ref (w 10))] [(.ref (w 2))])) rfl (hb hby d2_4)
  refine Goes.by st61 ?_
  refine Goes.by (fun _ k => Jvm.RoadKit.acmp (g := (mkF m 7 #[.val (.ref (w 10))] [(.ref (w 1)), (.ref (w 2))])) X61 hx rfl rfl rfl (pc0 := 7) (pc' := 14) (same := false) rfl (hb hby d2_7) rfl (decide_eq_false fun q => (Ne.symm (own_ne_1_2 P)) (Value.ref.inj q)) (by decide) (by decide) (XS.iconst X61.here hx rfl (hb hby d2_14) k)) ?_
  show Goes p e below (T61.setTop (mkF m 15 #[.val (.ref (w 10))] [(.int (0 : Int32))])) _
  obtain ⟨fs, hr, hrun, hended, hW, hsame⟩ := X61.leave (v := some (.int (0 : Int32))) (fun h => by rw [Bd.returns] at h; cases h)
  exact ⟨_, _, retN X61 hx (t := .boolean) Bd.returns (by simp) (hb hby d2_15) hr, hrun, hended, _, _, rfl, ⟨rfl, N0, e61⟩, ⟨_, rfl⟩, hW, hsame.mono (by decide) (by decide)⟩
set_option maxRecDepth 65536 in
set_option maxHeartbeats 40000000 in
theorem rm0 (l : Launch) (Z : State) (a0 : Array Value) (hw : ∀ d ∈ tables_1, d.before a0 Z = true) (ws : List Jvm.Cond) (h0 : Heap) (n0 : Nat) (Z0 : n0 ≤ h0.size) (p1 : Int32) (w : Nat → Addr) (P : Pins Z h0 w) :
    MetFree l x (head1 (Jvm.Cond.code x code maxLocals ret :: ws) room_1) (fun a U => a = #[(.int p1)] ∧ Z.Warmed39 U.vm ∧ U.heap = h0) (fun _ _ _ _ _ => True) (fun _ U o U' => ∃ v L, o = .returned v ∧ QL n0 v U'.heap L ∧ FrameEnd U o U' L 0 0) := by
  refine MetFree.of_bodySF (plainFor_of_name pn0) hisR ?_
  intro p e s m args below meth c s₁ Bd hml0 hP hK
  obtain ⟨rfl, hZ, hh⟩ := hP
  have hx := Bd.exec
  have hby := Bd.bytes
  have hml : c.maxLocals = 5 := hml0
  have hown : s.vm.findClass "com/example/knot3/knot3/definition/AttributeInheritedPinLaw" = some m.cls := findClass_of_methodNamed Bd.named
  have hnm := (name_of_methodNamed Bd.named Bd.method).1
  have X0 : Stand p l e room_1 s m #[(.int p1)] below meth c s₁ [] 0 0 := Stand.of_body Bd
  have e0 : s₁.heap = h0 := by rw [← hh, Bd.state]; rfl
  have N0 := Fr.nil n0
  refine Goes.out (Goes.by (fun t k => castTop (ef0_I m p1) k) ?_)
  show Goes p e below (s₁.setTop (mkF m 0 #[.val (.int p1), .unset, .unset, .unset, .unset] [])) _
  refine Goes.by (fun _ k => XS.iloadN X0.here hx rfl (hb hby at_0) rfl (X0.ldcInt hx hown (mvT hZ (hw _ (List.mem_of_getElem? (i := 0) rfl))) (g := (mkF m 1 #[.val (.int p1), .unset, .unset, .unset, .unset] [(.int p1)])) rfl (hb hby at_1) _ (XS.iand X0.here hx rfl (hb hby at_3) rfl k))) ?_
  show Goes p e below (s₁.setTop (mkF m 4 #[.val (.int p1), .unset, .unset, .unset, .unset] [(.int (p1 &&& (2147483647 : Int32)))])) _
  refine Goes.by (fun _ k => XS.bipush X0.here hx rfl (hb hby at_4) (iremM X0 hx rfl (hb hby at_6) rfl (by decide) (XS.istoreN X0.here hx rfl (hb hby at_7) rfl (l' := #[.val (.int p1), .val (.int ((p1 &&& (2147483647 : Int32)) % (10 : Int32))), .unset, .unset, .unset]) rfl k))) ?_
  show Goes p e below (s₁.setTop (mkF m 8 #[.val (.int p1), .val (.int ((p1 &&& (2147483647 : Int32)) % (10 : Int32))), .unset, .unset, .unset] [])) _
  have hsi := own_split p1
  obtain ⟨i, hi⟩ : ∃ z, z = ((p1 &&& (2147483647 : Int32)) % (10 : Int32)) := ⟨_, rfl⟩
  rw [← hi] at hsi ⊢
  rcases hsi with rfl | rfl | rfl | rfl | rfl | rfl | rfl | rfl | rfl | rfl
  · show Goes p e below (s₁.setTop (mkF m 8 #[.val (.int p1), .val (.int (0 : Int32)), .unset, .unset, .unset] [])) _
    refine Goes.by (fun _ k => XS.iloadN X0.here hx rfl (hb hby at_8) rfl k) ?_
    obtain ⟨_, _, ⟨T2, L2, k2, n2⟩, -, X2, ⟨Lc2, hQ2, l2, y2, z2⟩, st2⟩ := Jvm.LawKit.callS X0 hx (y := (⟨"com/example/knot3/knot3/definition/AttributeInheritedPinLaw", "pick", "(I)Lcom/example/knot3/knot3/definition/Attribute;"⟩ : MethodName)) hown (mvT hZ (hw _ (List.mem_of_getElem? (i := 1) rfl))) (mvT hZ (hw _ (List.mem_of_getElem? (i := 2) rfl))) (mvT hZ (hw _ (List.mem_of_getElem? (i := 3) rfl))) (mvT hZ (hw _ (List.mem_of_getElem? (i := 4) rfl))) (by decide) (backOf (W := 0) (r1_0 l Z a0 hw [] h0 n0 Z0 w P) hZ (hw _ (List.mem_of_getElem? (i := 4) rfl)) (hw _ (List.mem_of_getElem? (i := 3) rfl)) (by decide) (by decide)) (g := (mkF m 9 #[.val (.int p1), .val (.int (0 : Int32)), .unset, .unset, .unset] [(.int (0 : Int32))])) rfl (by rw [hml]; rfl) (argsL := [(.int (0 : Int32))]) (rest := []) (lenOf pd0 rfl) rfl (by show 2 * 0 + _ ≤ _; exact Nat.le_of_eq rfl) (hb hby at_9) (fun _ _ => ⟨rfl, e0, (by decide : 0 + 0 ≤ _), (by decide : 0 + 0 ≤ _)⟩)
    dsimp only [Pt.U, Pt.locs, Pt.cells, Pt.slots] at X2 l2 y2 z2 st2 hQ2
    subst l2 y2 z2
    obtain ⟨rfl, Nq2, e2⟩ := hQ2
    have N2 := Fr.app N0 Nq2
    refine Goes.by st2 ?_
    refine Goes.by (fun _ k => XS.astoreN X2.here hx rfl (hb hby at_12) rfl rfl (l' := #[.val (.int p1), .val (.int (0 : Int32)), .val (.ref (w 0)), .unset, .unset]) rfl (XS.iloadN X2.here hx rfl (hb hby at_13) rfl (XS.ifYes X2.here hx rfl (pc0 := 14) (pc' := 34) rfl (hb hby at_14) rfl ((if0 _ _).trans (teq (by decide : (0 : Int32) = (0 : Int32))).1) (by decide) (by decide) k))) ?_
    show Goes p e below (T2.setTop (mkF m 34 #[.val (.int p1), .val (.int (0 : Int32)), .val (.ref (w 0)), .unset, .unset] [])) _
    refine Goes.by (fun _ k => XS.iconst X2.here hx rfl (hb hby at_34) (XS.goto X2.here hx rfl (pc0 := 35) (pc' := 39) rfl (hb hby at_35) (by decide) (by decide) (XS.istoreN X2.here hx rfl (hb hby at_39) rfl (l' := #[.val (.int p1), .val (.int (0 : Int32)), .val (.ref (w 0)), .val (.int (1 : Int32)), .unset]) rfl k))) ?_
    show Goes p e below (T2.setTop (mkF m 40 #[.val (.int p1), .val (.int (0 : Int32)), .val (.ref (w 0)), .val (.int (1 : Int32)), .unset] [])) _
    refine Goes.by (fun _ k => XS.aloadN X2.here hx rfl (hb hby at_40) rfl rfl k) ?_
    obtain ⟨cq5, kq5, q5a, q5b, q5c⟩ := isOf hZ e2 P.2.1
    obtain ⟨_, _, ⟨T5, L5, k5, n5⟩, -, X5, ⟨Lc5, hQ5, l5, y5, z5⟩, st5⟩ := X2.virtualBack hx (y := (⟨"com/example/knot3/knot3/definition/Attribute", "inherited", "()Z"⟩ : MethodName)) (z := (⟨"com/example/knot3/knot3/definition/Attribute", "inherited", "()Z"⟩ : MethodName)) hown (mvT hZ (hw _ (List.mem_of_getElem? (i := 8) rfl))) (mvT hZ (hw _ (List.mem_of_getElem? (i := 9) rfl))) (notFace_of_selects (args := #[]) (mvT hZ (hw _ (List.mem_of_getElem? (i := 11) rfl)))) (mvT hZ (hw _ (List.mem_of_getElem? (i := 11) rfl))) (mvT hZ (hw _ (List.mem_of_getElem? (i := 10) rfl))) (by decide) (backOf (W := 0) (r2_1 l Z a0 hw [] h0 n0 Z0 w P) hZ (hw _ (List.mem_of_getElem? (i := 12) rfl)) (hw _ (List.mem_of_getElem? (i := 6) rfl)) (by decide) (by decide)) q5a q5c (g := (mkF m 41 #[.val (.int p1), .val (.int (0 : Int32)), .val (.ref (w 0)), .val (.int (1 : Int32)), .unset] [(.ref (w 0))])) rfl (by rw [hml]; rfl) (Steps.refl _) (argsL := []) (rest := []) (lenOf pd1 rfl) rfl (by show 2 * 0 + _ ≤ _; exact Nat.le_of_eq rfl) (hb hby at_41) (fun _ _ => ⟨rfl, e2, (by decide : 0 + 0 ≤ _), (by decide : 0 + 0 ≤ _)⟩)
    dsimp only [Pt.U, Pt.locs, Pt.cells, Pt.slots] at X5 l5 y5 z5 st5 hQ5
    subst l5 y5 z5
    obtain ⟨rfl, Nq5, e5⟩ := hQ5
    have N5 := Fr.app N2 Nq5
    refine Goes.tr st5 ?_
    refine Goes.by (fun _ k => XS.istore X5.here hx rfl (hb hby at_44) rfl (l' := #[.val (.int p1), .val (.int (0 : Int32)), .val (.ref (w 0)), .val (.int (1 : Int32)), .val (.int (1 : Int32))]) rfl (XS.iload X5.here hx rfl (hb hby at_46) rfl (XS.ifNo X5.here hx rfl (hb hby at_48) rfl ((if0 _ _).trans (feq (by decide : ¬ ((1 : Int32) = (0 : Int32)))).1) k))) ?_
    show Goes p e below (T5.setTop (mkF m 51 #[.val (.int p1), .val (.int (0 : Int32)), .val (.ref (w 0)), .val (.int (1 : Int32)), .val (.int (1 : Int32))] [])) _
    refine Goes.by (fun _ k => XS.aloadN X5.here hx rfl (hb hby at_51) rfl rfl k) ?_
    obtain ⟨cq8, kq8, q8a, q8b, q8c⟩ := isOf hZ e5 P.2.1
    obtain ⟨_, _, ⟨T8, L8, k8, n8⟩, -, X8, ⟨Lc8, hQ8, l8, y8, z8⟩, st8⟩ := X5.virtualBack hx (y := (⟨"com/example/knot3/knot3/definition/Attribute", "fileWide", "()Z"⟩ : MethodName)) (z := (⟨"com/example/knot3/knot3/definition/Attribute", "fileWide", "()Z"⟩ : MethodName)) hown (mvT hZ (hw _ (List.mem_of_getElem? (i := 18) rfl))) (mvT hZ (hw _ (List.mem_of_getElem? (i := 19) rfl))) (notFace_of_selects (args := #[]) (mvT hZ (hw _ (List.mem_of_getElem? (i := 21) rfl)))) (mvT hZ (hw _ (List.mem_of_getElem? (i := 21) rfl))) (mvT hZ (hw _ (List.mem_of_getElem? (i := 20) rfl))) (by decide) (backOf (W := 0) (r3_2 l Z a0 hw [] h0 n0 Z0 w P) hZ (hw _ (List.mem_of_getElem? (i := 22) rfl)) (hw _ (List.mem_of_getElem? (i := 6) rfl)) (by decide) (by decide)) q8a q8c (g := (mkF m 52 #[.val (.int p1), .val (.int (0 : Int32)), .val (.ref (w 0)), .val (.int (1 : Int32)), .val (.int (1 : Int32))] [(.ref (w 0))])) rfl (by rw [hml]; rfl) (Steps.refl _) (argsL := []) (rest := []) (lenOf pd1 rfl) rfl (by show 2 * 0 + _ ≤ _; exact Nat.le_of_eq rfl) (hb hby at_52) (fun _ _ => ⟨rfl, e5, (by decide : 0 + 0 ≤ _), (by decide : 0 + 0 ≤ _)⟩)
    dsimp only [Pt.U, Pt.locs, Pt.cells, Pt.slots] at X8 l8 y8 z8 st8 hQ8
    subst l8 y8 z8
    obtain ⟨rfl, Nq8, e8⟩ := hQ8
    have N8 := Fr.app N5 Nq8
    refine Goes.tr st8 ?_
    refine Goes.by (fun _ k => XS.ifYes X8.here hx rfl (pc0 := 55) (pc' := 60) rfl (hb hby at_55) rfl ((if0 _ _).trans (teq (by decide : (0 : Int32) = (0 : Int32))).1) (by decide) (by decide) (XS.iload X8.here hx rfl (hb hby at_60) rfl (XS.iloadN X8.here hx rfl (hb hby at_62) rfl k))) ?_
    show Goes p e below (T8.setTop (mkF m 63 #[.val (.int p1), .val (.int (0 : Int32)), .val (.ref (w 0)), .val (.int (1 : Int32)), .val (.int (1 : Int32))] [(.int (1 : Int32)), (.int (1 : Int32))])) _
    refine Goes.by (fun _ k => XS.icmpNo X8.here hx rfl (hb hby at_63) rfl (teq (by decide : (1 : Int32) = (1 : Int32))).2 (XS.iconst X8.here hx rfl (hb hby at_66) (XS.goto X8.here hx rfl (pc0 := 67) (pc' := 71) rfl (hb hby at_67) (by decide) (by decide) k))) ?_
    show Goes p e below (T8.setTop (mkF m 71 #[.val (.int p1), .val (.int (0 : Int32)), .val (.ref (w 0)), .val (.int (1 : Int32)), .val (.int (1 : Int32))] [(.int (1 : Int32))])) _
    obtain ⟨fs, hr, hrun, hended, hW, hsame⟩ := X8.leave (v := some (.int (1 : Int32))) (fun h => by rw [Bd.returns] at h; cases h)
    exact ⟨_, _, retN X8 hx (t := .boolean) Bd.returns (by simp) (hb hby at_71) hr, hrun, hended, _, _, rfl, ⟨rfl, N8⟩, ⟨_, rfl⟩, hW, hsame.mono (by decide) (by decide)⟩
  · show Goes p e below (s₁.setTop (mkF m 8 #[.val (.int p1), .val (.int (1 : Int32)), .unset, .unset, .unset] [])) _
    refine Goes.by (fun _ k => XS.iloadN X0.here hx rfl (hb hby at_8) rfl k) ?_
    obtain ⟨_, _, ⟨T10, L10, k10, n10⟩, -, X10, ⟨Lc10, hQ10, l10, y10, z10⟩, st10⟩ := Jvm.LawKit.callS X0 hx (y := (⟨"com/example/knot3/knot3/definition/AttributeInheritedPinLaw", "pick", "(I)Lcom/example/knot3/knot3/definition/Attribute;"⟩ : MethodName)) hown (mvT hZ (hw _ (List.mem_of_getElem? (i := 1) rfl))) (mvT hZ (hw _ (List.mem_of_getElem? (i := 2) rfl))) (mvT hZ (hw _ (List.mem_of_getElem? (i := 3) rfl))) (mvT hZ (hw _ (List.mem_of_getElem? (i := 4) rfl))) (by decide) (backOf (W := 0) (r1_3 l Z a0 hw [] h0 n0 Z0 w P) hZ (hw _ (List.mem_of_getElem? (i := 4) rfl)) (hw _ (List.mem_of_getElem? (i := 3) rfl)) (by decide) (by decide)) (g := (mkF m 9 #[.val (.int p1), .val (.int (1 : Int32)), .unset, .unset, .unset] [(.int (1 : Int32))])) rfl (by rw [hml]; rfl) (argsL := [(.int (1 : Int32))]) (rest := []) (lenOf pd0 rfl) rfl (by show 2 * 0 + _ ≤ _; exact Nat.le_of_eq rfl) (hb hby at_9) (fun _ _ => ⟨rfl, e0, (by decide : 0 + 0 ≤ _), (by decide : 0 + 0 ≤ _)⟩)
    dsimp only [Pt.U, Pt.locs, Pt.cells, Pt.slots] at X10 l10 y10 z10 st10 hQ10
    subst l10 y10 z10
    obtain ⟨rfl, Nq10, e10⟩ := hQ10
    have N10 := Fr.app N0 Nq10
    refine Goes.by st10 ?_
    refine Goes.by (fun _ k => XS.astoreN X10.here hx rfl (hb hby at_12) rfl rfl (l' := #[.val (.int p1), .val (.int (1 : Int32)), .val (.ref (w 4)), .unset, .unset]) rfl (XS.iloadN X10.here hx rfl (hb hby at_13) rfl (XS.ifNo X10.here hx rfl (hb hby at_14) rfl ((if0 _ _).trans (feq (by decide : ¬ ((1 : Int32) = (0 : Int32)))).1) k))) ?_
    show Goes p e below (T10.setTop (mkF m 17 #[.val (.int p1), .val (.int (1 : Int32)), .val (.ref (w 4)), .unset, .unset] [])) _
    refine Goes.by (fun _ k => XS.iloadN X10.here hx rfl (hb hby at_17) rfl (XS.iconst X10.here hx rfl (hb hby at_18) (XS.icmpNo X10.here hx rfl (hb hby at_19) rfl (feq (by decide : ¬ ((1 : Int32) = (3 : Int32)))).1 k))) ?_
    show Goes p e below (T10.setTop (mkF m 22 #[.val (.int p1), .val (.int (1 : Int32)), .val (.ref (w 4)), .unset, .unset] [])) _
    refine Goes.by (fun _ k => XS.iloadN X10.here hx rfl (hb hby at_22) rfl (XS.bipush X10.here hx rfl (hb hby at_23) (XS.icmpNo X10.here hx rfl (hb hby at_25) rfl (feq (by decide : ¬ ((1 : Int32) = (6 : Int32)))).1 k))) ?_
    show Goes p e below (T10.setTop (mkF m 28 #[.val (.int p1), .val (.int (1 : Int32)), .val (.ref (w 4)), .unset, .unset] [])) _
    refine Goes.by (fun _ k => XS.iloadN X10.here hx rfl (hb hby at_28) rfl (XS.bipush X10.here hx rfl (hb hby at_29) (XS.icmpYes X10.here hx rfl (pc0 := 31) (pc' := 38) rfl (hb hby at_31) rfl (feq (by decide : ¬ ((1 : Int32) = (7 : Int32)))).2 (by decide) (by decide) k))) ?_
    show Goes p e below (T10.setTop (mkF m 38 #[.val (.int p1), .val (.int (1 : Int32)), .val (.ref (w 4)), .unset, .unset] [])) _
    refine Goes.by (fun _ k => XS.iconst X10.here hx rfl (hb hby at_38) (XS.istoreN X10.here hx rfl (hb hby at_39) rfl (l' := #[.val (.int p1), .val (.int (1 : Int32)), .val (.ref (w 4)), .val (.int (0 : Int32)), .unset]) rfl (XS.aloadN X10.here hx rfl (hb hby at_40) rfl rfl k))) ?_
    obtain ⟨cq13, kq13, q13a, q13b, q13c⟩ := isOf hZ e10 P.2.2.2.2.2.2.2.2.2.1
    obtain ⟨_, _, ⟨T13, L13, k13, n13⟩, -, X13, ⟨Lc13, hQ13, l13, y13, z13⟩, st13⟩ := X10.virtualBack hx (y := (⟨"com/example/knot3/knot3/definition/Attribute", "inherited", "()Z"⟩ : MethodName)) (z := (⟨"com/example/knot3/knot3/definition/Attribute", "inherited", "()Z"⟩ : MethodName)) hown (mvT hZ (hw _ (List.mem_of_getElem? (i := 8) rfl))) (mvT hZ (hw _ (List.mem_of_getElem? (i := 9) rfl))) (notFace_of_selects (args := #[]) (mvT hZ (hw _ (List.mem_of_getElem? (i := 11) rfl)))) (mvT hZ (hw _ (List.mem_of_getElem? (i := 11) rfl))) (mvT hZ (hw _ (List.mem_of_getElem? (i := 10) rfl))) (by decide) (backOf (W := 0) (r2_4 l Z a0 hw [] h0 n0 Z0 w P) hZ (hw _ (List.mem_of_getElem? (i := 12) rfl)) (hw _ (List.mem_of_getElem? (i := 6) rfl)) (by decide) (by decide)) q13a q13c (g := (mkF m 41 #[.val (.int p1), .val (.int (1 : Int32)), .val (.ref (w 4)), .val (.int (0 : Int32)), .unset] [(.ref (w 4))])) rfl (by rw [hml]; rfl) (Steps.refl _) (argsL := []) (rest := []) (lenOf pd1 rfl) rfl (by show 2 * 0 + _ ≤ _; exact Nat.le_of_eq rfl) (hb hby at_41) (fun _ _ => ⟨rfl, e10, (by decide : 0 + 0 ≤ _), (by decide : 0 + 0 ≤ _)⟩)
    dsimp only [Pt.U, Pt.locs, Pt.cells, Pt.slots] at X13 l13 y13 z13 st13 hQ13
    subst l13 y13 z13
    obtain ⟨rfl, Nq13, e13⟩ := hQ13
    have N13 := Fr.app N10 Nq13
    refine Goes.tr st13 ?_
    refine Goes.by (fun _ k => XS.istore X13.here hx rfl (hb hby at_44) rfl (l' := #[.val (.int p1), .val (.int (1 : Int32)), .val (.ref (w 4)), .val (.int (0 : Int32)), .val (.int (0 : Int32))]) rfl (XS.iload X13.here hx rfl (hb hby at_46) rfl (XS.ifYes X13.here hx rfl (pc0 := 48) (pc' := 60) rfl (hb hby at_48) rfl ((if0 _ _).trans (teq (by decide : (0 : Int32) = (0 : Int32))).1) (by decide) (by decide) k))) ?_
    show Goes p e below (T13.setTop (mkF m 60 #[.val (.int p1), .val (.int (1 : Int32)), .val (.ref (w 4)), .val (.int (0 : Int32)), .val (.int (0 : Int32))] [])) _
    refine Goes.by (fun _ k => XS.iload X13.here hx rfl (hb hby at_60) rfl (XS.iloadN X13.here hx rfl (hb hby at_62) rfl (XS.icmpNo X13.here hx rfl (hb hby at_63) rfl (teq (by decide : (0 : Int32) = (0 : Int32))).2 k))) ?_
    show Goes p e below (T13.setTop (mkF m 66 #[.val (.int p1), .val (.int (1 : Int32)), .val (.ref (w 4)), .val (.int (0 : Int32)), .val (.int (0 : Int32))] [])) _
    refine Goes.by (fun _ k => XS.iconst X13.here hx rfl (hb hby at_66) (XS.goto X13.here hx rfl (pc0 := 67) (pc' := 71) rfl (hb hby at_67) (by decide) (by decide) k)) ?_
    show Goes p e below (T13.setTop (mkF m 71 #[.val (.int p1), .val (.int (1 : Int32)), .val (.ref (w 4)), .val (.int (0 : Int32)), .val (.int (0 : Int32))] [(.int (1 : Int32))])) _
    obtain ⟨fs, hr, hrun, hended, hW, hsame⟩ := X13.leave (v := some (.int (1 : Int32))) (fun h => by rw [Bd.returns] at h; cases h)
    exact ⟨_, _, retN X13 hx (t := .boolean) Bd.returns (by simp) (hb hby at_71) hr, hrun, hended, _, _, rfl, ⟨rfl, N13⟩, ⟨_, rfl⟩, hW, hsame.mono (by decide) (by decide)⟩
  · show Goes p e below (s₁.setTop (mkF m 8 #[.val (.int p1), .val (.int (2 : Int32)), .unset, .unset, .unset] [])) _
    refine Goes.by (fun _ k => XS.iloadN X0.here hx rfl (hb hby at_8) rfl k) ?_
    obtain ⟨_, _, ⟨T15, L15, k15, n15⟩, -, X15, ⟨Lc15, hQ15, l15, y15, z15⟩, st15⟩ := Jvm.LawKit.callS X0 hx (y := (⟨"com/example/knot3/knot3/definition/AttributeInheritedPinLaw", "pick", "(I)Lcom/example/knot3/knot3/definition/Attribute;"⟩ : MethodName)) hown (mvT hZ (hw _ (List.mem_of_getElem? (i := 1) rfl))) (mvT hZ (hw _ (List.mem_of_getElem? (i := 2) rfl))) (mvT hZ (hw _ (List.mem_of_getElem? (i := 3) rfl))) (mvT hZ (hw _ (List.mem_of_getElem? (i := 4) rfl))) (by decide) (backOf (W := 0) (r1_5 l Z a0 hw [] h0 n0 Z0 w P) hZ (hw _ (List.mem_of_getElem? (i := 4) rfl)) (hw _ (List.mem_of_getElem? (i := 3) rfl)) (by decide) (by decide)) (g := (mkF m 9 #[.val (.int p1), .val (.int (2 : Int32)), .unset, .unset, .unset] [(.int (2 : Int32))])) rfl (by rw [hml]; rfl) (argsL := [(.int (2 : Int32))]) (rest := []) (lenOf pd0 rfl) rfl (by show 2 * 0 + _ ≤ _; exact Nat.le_of_eq rfl) (hb hby at_9) (fun _ _ => ⟨rfl, e0, (by decide : 0 + 0 ≤ _), (by decide : 0 + 0 ≤ _)⟩)
    dsimp only [Pt.U, Pt.locs, Pt.cells, Pt.slots] at X15 l15 y15 z15 st15 hQ15
    subst l15 y15 z15
    obtain ⟨rfl, Nq15, e15⟩ := hQ15
    have N15 := Fr.app N0 Nq15
    refine Goes.by st15 ?_
    refine Goes.by (fun _ k => XS.astoreN X15.here hx rfl (hb hby at_12) rfl rfl (l' := #[.val (.int p1), .val (.int (2 : Int32)), .val (.ref (w 8)), .unset, .unset]) rfl (XS.iloadN X15.here hx rfl (hb hby at_13) rfl (XS.ifNo X15.here hx rfl (hb hby at_14) rfl ((if0 _ _).trans (feq (by decide : ¬ ((2 : Int32) = (0 : Int32)))).1) k))) ?_
    show Goes p e below (T15.setTop (mkF m 17 #[.val (.int p1), .val (.int (2 : Int32)), .val (.ref (w 8)), .unset, .unset] [])) _
    refine Goes.by (fun _ k => XS.iloadN X15.here hx rfl (hb hby at_17) rfl (XS.iconst X15.here hx rfl (hb hby at_18) (XS.icmpNo X15.here hx rfl (hb hby at_19) rfl (feq (by decide : ¬ ((2 : Int32) = (3 : Int32)))).1 k))) ?_
    show Goes p e below (T15.setTop (mkF m 22 #[.val (.int p1), .val (.int (2 : Int32)), .val (.ref (w 8)), .unset, .unset] [])) _
    refine Goes.by (fun _ k => XS.iloadN X15.here hx rfl (hb hby at_22) rfl (XS.bipush X15.here hx rfl (hb hby at_23) (XS.icmpNo X15.here hx rfl (hb hby at_25) rfl (feq (by decide : ¬ ((2 : Int32) = (6 : Int32)))).1 k))) ?_
    show Goes p e below (T15.setTop (mkF m 28 #[.val (.int p1), .val (.int (2 : Int32)), .val (.ref (w 8)), .unset, .unset] [])) _
    refine Goes.by (fun _ k => XS.iloadN X15.here hx rfl (hb hby at_28) rfl (XS.bipush X15.here hx rfl (hb hby at_29) (XS.icmpYes X15.here hx rfl (pc0 := 31) (pc' := 38) rfl (hb hby at_31) rfl (feq (by decide : ¬ ((2 : Int32) = (7 : Int32)))).2 (by decide) (by decide) k))) ?_
    show Goes p e below (T15.setTop (mkF m 38 #[.val (.int p1), .val (.int (2 : Int32)), .val (.ref (w 8)), .unset, .unset] [])) _
    refine Goes.by (fun _ k => XS.iconst X15.here hx rfl (hb hby at_38) (XS.istoreN X15.here hx rfl (hb hby at_39) rfl (l' := #[.val (.int p1), .val (.int (2 : Int32)), .val (.ref (w 8)), .val (.int (0 : Int32)), .unset]) rfl (XS.aloadN X15.here hx rfl (hb hby at_40) rfl rfl k))) ?_
    obtain ⟨cq18, kq18, q18a, q18b, q18c⟩ := isOf hZ e15 P.2.2.2.2.2.2.2.2.2.2.2.2.2.2.2.2.2.1
    obtain ⟨_, _, ⟨T18, L18, k18, n18⟩, -, X18, ⟨Lc18, hQ18, l18, y18, z18⟩, st18⟩ := X15.virtualBack hx (y := (⟨"com/example/knot3/knot3/definition/Attribute", "inherited", "()Z"⟩ : MethodName)) (z := (⟨"com/example/knot3/knot3/definition/Attribute", "inherited", "()Z"⟩ : MethodName)) hown (mvT hZ (hw _ (List.mem_of_getElem? (i := 8) rfl))) (mvT hZ (hw _ (List.mem_of_getElem? (i := 9) rfl))) (notFace_of_selects (args := #[]) (mvT hZ (hw _ (List.mem_of_getElem? (i := 11) rfl)))) (mvT hZ (hw _ (List.mem_of_getElem? (i := 11) rfl))) (mvT hZ (hw _ (List.mem_of_getElem? (i := 10) rfl))) (by decide) (backOf (W := 0) (r2_6 l Z a0 hw [] h0 n0 Z0 w P) hZ (hw _ (List.mem_of_getElem? (i := 12) rfl)) (hw _ (List.mem_of_getElem? (i := 6) rfl)) (by decide) (by decide)) q18a q18c (g := (mkF m 41 #[.val (.int p1), .val (.int (2 : Int32)), .val (.ref (w 8)), .val (.int (0 : Int32)), .unset] [(.ref (w 8))])) rfl (by rw [hml]; rfl) (Steps.refl _) (argsL := []) (rest := []) (lenOf pd1 rfl) rfl (by show 2 * 0 + _ ≤ _; exact Nat.le_of_eq rfl) (hb hby at_41) (fun _ _ => ⟨rfl, e15, (by decide : 0 + 0 ≤ _), (by decide : 0 + 0 ≤ _)⟩)
    dsimp only [Pt.U, Pt.locs, Pt.cells, Pt.slots] at X18 l18 y18 z18 st18 hQ18
    subst l18 y18 z18
    obtain ⟨rfl, Nq18, e18⟩ := hQ18
    have N18 := Fr.app N15 Nq18
    refine Goes.tr st18 ?_
    refine Goes.by (fun _ k => XS.istore X18.here hx rfl (hb hby at_44) rfl (l' := #[.val (.int p1), .val (.int (2 : Int32)), .val (.ref (w 8)), .val (.int (0 : Int32)), .val (.int (0 : Int32))]) rfl (XS.iload X18.here hx rfl (hb hby at_46) rfl (XS.ifYes X18.here hx rfl (pc0 := 48) (pc' := 60) rfl (hb hby at_48) rfl ((if0 _ _).trans (teq (by decide : (0 : Int32) = (0 : Int32))).1) (by decide) (by decide) k))) ?_
    show Goes p e below (T18.setTop (mkF m 60 #[.val (.int p1), .val (.int (2 : Int32)), .val (.ref (w 8)), .val (.int (0 : Int32)), .val (.int (0 : Int32))] [])) _
    refine Goes.by (fun _ k => XS.iload X18.here hx rfl (hb hby at_60) rfl (XS.iloadN X18.here hx rfl (hb hby at_62) rfl (XS.icmpNo X18.here hx rfl (hb hby at_63) rfl (teq (by decide : (0 : Int32) = (0 : Int32))).2 k))) ?_
    show Goes p e below (T18.setTop (mkF m 66 #[.val (.int p1), .val (.int (2 : Int32)), .val (.ref (w 8)), .val (.int (0 : Int32)), .val (.int (0 : Int32))] [])) _
    refine Goes.by (fun _ k => XS.iconst X18.here hx rfl (hb hby at_66) (XS.goto X18.here hx rfl (pc0 := 67) (pc' := 71) rfl (hb hby at_67) (by decide) (by decide) k)) ?_
    show Goes p e below (T18.setTop (mkF m 71 #[.val (.int p1), .val (.int (2 : Int32)), .val (.ref (w 8)), .val (.int (0 : Int32)), .val (.int (0 : Int32))] [(.int (1 : Int32))])) _
    obtain ⟨fs, hr, hrun, hended, hW, hsame⟩ := X18.leave (v := some (.int (1 : Int32))) (fun h => by rw [Bd.returns] at h; cases h)
    exact ⟨_, _, retN X18 hx (t := .boolean) Bd.returns (by simp) (hb hby at_71) hr, hrun, hended, _, _, rfl, ⟨rfl, N18⟩, ⟨_, rfl⟩, hW, hsame.mono (by decide) (by decide)⟩
  · show Goes p e below (s₁.setTop (mkF m 8 #[.val (.int p1), .val (.int (3 : Int32)), .unset, .unset, .unset] [])) _
    refine Goes.by (fun _ k => XS.iloadN X0.here hx rfl (hb hby at_8) rfl k) ?_
    obtain ⟨_, _, ⟨T20, L20, k20, n20⟩, -, X20, ⟨Lc20, hQ20, l20, y20, z20⟩, st20⟩ := Jvm.LawKit.callS X0 hx (y := (⟨"com/example/knot3/knot3/definition/AttributeInheritedPinLaw", "pick", "(I)Lcom/example/knot3/knot3/definition/Attribute;"⟩ : MethodName)) hown (mvT hZ (hw _ (List.mem_of_getElem? (i := 1) rfl))) (mvT hZ (hw _ (List.mem_of_getElem? (i := 2) rfl))) (mvT hZ (hw _ (List.mem_of_getElem? (i := 3) rfl))) (mvT hZ (hw _ (List.mem_of_getElem? (i := 4) rfl))) (by decide) (backOf (W := 0) (r1_7 l Z a0 hw [] h0 n0 Z0 w P) hZ (hw _ (List.mem_of_getElem? (i := 4) rfl)) (hw _ (List.mem_of_getElem? (i := 3) rfl)) (by decide) (by decide)) (g := (mkF m 9 #[.val (.int p1), .val (.int (3 : Int32)), .unset, .unset, .unset] [(.int (3 : Int32))])) rfl (by rw [hml]; rfl) (argsL := [(.int (3 : Int32))]) (rest := []) (lenOf pd0 rfl) rfl (by show 2 * 0 + _ ≤ _; exact Nat.le_of_eq rfl) (hb hby at_9) (fun _ _ => ⟨rfl, e0, (by decide : 0 + 0 ≤ _), (by decide : 0 + 0 ≤ _)⟩)
    dsimp only [Pt.U, Pt.locs, Pt.cells, Pt.slots] at X20 l20 y20 z20 st20 hQ20
    subst l20 y20 z20
    obtain ⟨rfl, Nq20, e20⟩ := hQ20
    have N20 := Fr.app N0 Nq20
    refine Goes.by st20 ?_
    refine Goes.by (fun _ k => XS.astoreN X20.here hx rfl (hb hby at_12) rfl rfl (l' := #[.val (.int p1), .val (.int (3 : Int32)), .val (.ref (w 3)), .unset, .unset]) rfl (XS.iloadN X20.here hx rfl (hb hby at_13) rfl (XS.ifNo X20.here hx rfl (hb hby at_14) rfl ((if0 _ _).trans (feq (by decide : ¬ ((3 : Int32) = (0 : Int32)))).1) k))) ?_
    show Goes p e below (T20.setTop (mkF m 17 #[.val (.int p1), .val (.int (3 : Int32)), .val (.ref (w 3)), .unset, .unset] [])) _
    refine Goes.by (fun _ k => XS.iloadN X20.here hx rfl (hb hby at_17) rfl (XS.iconst X20.here hx rfl (hb hby at_18) (XS.icmpYes X20.here hx rfl (pc0 := 19) (pc' := 34) rfl (hb hby at_19) rfl (teq (by decide : (3 : Int32) = (3 : Int32))).1 (by decide) (by decide) k))) ?_
    show Goes p e below (T20.setTop (mkF m 34 #[.val (.int p1), .val (.int (3 : Int32)), .val (.ref (w 3)), .unset, .unset] [])) _
    refine Goes.by (fun _ k => XS.iconst X20.here hx rfl (hb hby at_34) (XS.goto X20.here hx rfl (pc0 := 35) (pc' := 39) rfl (hb hby at_35) (by decide) (by decide) (XS.istoreN X20.here hx rfl (hb hby at_39) rfl (l' := #[.val (.int p1), .val (.int (3 : Int32)), .val (.ref (w 3)), .val (.int (1 : Int32)), .unset]) rfl k))) ?_
    show Goes p e below (T20.setTop (mkF m 40 #[.val (.int p1), .val (.int (3 : Int32)), .val (.ref (w 3)), .val (.int (1 : Int32)), .unset] [])) _
    refine Goes.by (fun _ k => XS.aloadN X20.here hx rfl (hb hby at_40) rfl rfl k) ?_
    obtain ⟨cq23, kq23, q23a, q23b, q23c⟩ := isOf hZ e20 P.2.2.2.2.2.2.2.1
    obtain ⟨_, _, ⟨T23, L23, k23, n23⟩, -, X23, ⟨Lc23, hQ23, l23, y23, z23⟩, st23⟩ := X20.virtualBack hx (y := (⟨"com/example/knot3/knot3/definition/Attribute", "inherited", "()Z"⟩ : MethodName)) (z := (⟨"com/example/knot3/knot3/definition/Attribute", "inherited", "()Z"⟩ : MethodName)) hown (mvT hZ (hw _ (List.mem_of_getElem? (i := 8) rfl))) (mvT hZ (hw _ (List.mem_of_getElem? (i := 9) rfl))) (notFace_of_selects (args := #[]) (mvT hZ (hw _ (List.mem_of_getElem? (i := 11) rfl)))) (mvT hZ (hw _ (List.mem_of_getElem? (i := 11) rfl))) (mvT hZ (hw _ (List.mem_of_getElem? (i := 10) rfl))) (by decide) (backOf (W := 0) (r2_8 l Z a0 hw [] h0 n0 Z0 w P) hZ (hw _ (List.mem_of_getElem? (i := 12) rfl)) (hw _ (List.mem_of_getElem? (i := 6) rfl)) (by decide) (by decide)) q23a q23c (g := (mkF m 41 #[.val (.int p1), .val (.int (3 : Int32)), .val (.ref (w 3)), .val (.int (1 : Int32)), .unset] [(.ref (w 3))])) rfl (by rw [hml]; rfl) (Steps.refl _) (argsL := []) (rest := []) (lenOf pd1 rfl) rfl (by show 2 * 0 + _ ≤ _; exact Nat.le_of_eq rfl) (hb hby at_41) (fun _ _ => ⟨rfl, e20, (by decide : 0 + 0 ≤ _), (by decide : 0 + 0 ≤ _)⟩)
    dsimp only [Pt.U, Pt.locs, Pt.cells, Pt.slots] at X23 l23 y23 z23 st23 hQ23
    subst l23 y23 z23
    obtain ⟨rfl, Nq23, e23⟩ := hQ23
    have N23 := Fr.app N20 Nq23
    refine Goes.tr st23 ?_
    refine Goes.by (fun _ k => XS.istore X23.here hx rfl (hb hby at_44) rfl (l' := #[.val (.int p1), .val (.int (3 : Int32)), .val (.ref (w 3)), .val (.int (1 : Int32)), .val (.int (1 : Int32))]) rfl (XS.iload X23.here hx rfl (hb hby at_46) rfl (XS.ifNo X23.here hx rfl (hb hby at_48) rfl ((if0 _ _).trans (feq (by decide : ¬ ((1 : Int32) = (0 : Int32)))).1) k))) ?_
    show Goes p e below (T23.setTop (mkF m 51 #[.val (.int p1), .val (.int (3 : Int32)), .val (.ref (w 3)), .val (.int (1 : Int32)), .val (.int (1 : Int32))] [])) _
    refine Goes.by (fun _ k => XS.aloadN X23.here hx rfl (hb hby at_51) rfl rfl k) ?_
    obtain ⟨cq26, kq26, q26a, q26b, q26c⟩ := isOf hZ e23 P.2.2.2.2.2.2.2.1
    obtain ⟨_, _, ⟨T26, L26, k26, n26⟩, -, X26, ⟨Lc26, hQ26, l26, y26, z26⟩, st26⟩ := X23.virtualBack hx (y := (⟨"com/example/knot3/knot3/definition/Attribute", "fileWide", "()Z"⟩ : MethodName)) (z := (⟨"com/example/knot3/knot3/definition/Attribute", "fileWide", "()Z"⟩ : MethodName)) hown (mvT hZ (hw _ (List.mem_of_getElem? (i := 18) rfl))) (mvT hZ (hw _ (List.mem_of_getElem? (i := 19) rfl))) (notFace_of_selects (args := #[]) (mvT hZ (hw _ (List.mem_of_getElem? (i := 21) rfl)))) (mvT hZ (hw _ (List.mem_of_getElem? (i := 21) rfl))) (mvT hZ (hw _ (List.mem_of_getElem? (i := 20) rfl))) (by decide) (backOf (W := 0) (r3_9 l Z a0 hw [] h0 n0 Z0 w P) hZ (hw _ (List.mem_of_getElem? (i := 22) rfl)) (hw _ (List.mem_of_getElem? (i := 6) rfl)) (by decide) (by decide)) q26a q26c (g := (mkF m 52 #[.val (.int p1), .val (.int (3 : Int32)), .val (.ref (w 3)), .val (.int (1 : Int32)), .val (.int (1 : Int32))] [(.ref (w 3))])) rfl (by rw [hml]; rfl) (Steps.refl _) (argsL := []) (rest := []) (lenOf pd1 rfl) rfl (by show 2 * 0 + _ ≤ _; exact Nat.le_of_eq rfl) (hb hby at_52) (fun _ _ => ⟨rfl, e23, (by decide : 0 + 0 ≤ _), (by decide : 0 + 0 ≤ _)⟩)
    dsimp only [Pt.U, Pt.locs, Pt.cells, Pt.slots] at X26 l26 y26 z26 st26 hQ26
    subst l26 y26 z26
    obtain ⟨rfl, Nq26, e26⟩ := hQ26
    have N26 := Fr.app N23 Nq26
    refine Goes.tr st26 ?_
    refine Goes.by (fun _ k => XS.ifYes X26.here hx rfl (pc0 := 55) (pc' := 60) rfl (hb hby at_55) rfl ((if0 _ _).trans (teq (by decide : (0 : Int32) = (0 : Int32))).1) (by decide) (by decide) (XS.iload X26.here hx rfl (hb hby at_60) rfl (XS.iloadN X26.here hx rfl (hb hby at_62) rfl k))) ?_
    show Goes p e below (T26.setTop (mkF m 63 #[.val (.int p1), .val (.int (3 : Int32)), .val (.ref (w 3)), .val (.int (1 : Int32)), .val (.int (1 : Int32))] [(.int (1 : Int32)), (.int (1 : Int32))])) _
    refine Goes.by (fun _ k => XS.icmpNo X26.here hx rfl (hb hby at_63) rfl (teq (by decide : (1 : Int32) = (1 : Int32))).2 (XS.iconst X26.here hx rfl (hb hby at_66) (XS.goto X26.here hx rfl (pc0 := 67) (pc' := 71) rfl (hb hby at_67) (by decide) (by decide) k))) ?_
    show Goes p e below (T26.setTop (mkF m 71 #[.val (.int p1), .val (.int (3 : Int32)), .val (.ref (w 3)), .val (.int (1 : Int32)), .val (.int (1 : Int32))] [(.int (1 : Int32))])) _
    obtain ⟨fs, hr, hrun, hended, hW, hsame⟩ := X26.leave (v := some (.int (1 : Int32))) (fun h => by rw [Bd.returns] at h; cases h)
    exact ⟨_, _, retN X26 hx (t := .boolean) Bd.returns (by simp) (hb hby at_71) hr, hrun, hended, _, _, rfl, ⟨rfl, N26⟩, ⟨_, rfl⟩, hW, hsame.mono (by decide) (by decide)⟩
  · show Goes p e below (s₁.setTop (mkF m 8 #[.val (.int p1), .val (.int (4 : Int32)), .unset, .unset, .unset] [])) _
    refine Goes.by (fun _ k => XS.iloadN X0.here hx rfl (hb hby at_8) rfl k) ?_
    obtain ⟨_, _, ⟨T28, L28, k28, n28⟩, -, X28, ⟨Lc28, hQ28, l28, y28, z28⟩, st28⟩ := Jvm.LawKit.callS X0 hx (y := (⟨"com/example/knot3/knot3/definition/AttributeInheritedPinLaw", "pick", "(I)Lcom/example/knot3/knot3/definition/Attribute;"⟩ : MethodName)) hown (mvT hZ (hw _ (List.mem_of_getElem? (i := 1) rfl))) (mvT hZ (hw _ (List.mem_of_getElem? (i := 2) rfl))) (mvT hZ (hw _ (List.mem_of_getElem? (i := 3) rfl))) (mvT hZ (hw _ (List.mem_of_getElem? (i := 4) rfl))) (by decide) (backOf (W := 0) (r1_10 l Z a0 hw [] h0 n0 Z0 w P) hZ (hw _ (List.mem_of_getElem? (i := 4) rfl)) (hw _ (List.mem_of_getElem? (i := 3) rfl)) (by decide) (by decide)) (g := (mkF m 9 #[.val (.int p1), .val (.int (4 : Int32)), .unset, .unset, .unset] [(.int (4 : Int32))])) rfl (by rw [hml]; rfl) (argsL := [(.int (4 : Int32))]) (rest := []) (lenOf pd0 rfl) rfl (by show 2 * 0 + _ ≤ _; exact Nat.le_of_eq rfl) (hb hby at_9) (fun _ _ => ⟨rfl, e0, (by decide : 0 + 0 ≤ _), (by decide : 0 + 0 ≤ _)⟩)
    dsimp only [Pt.U, Pt.locs, Pt.cells, Pt.slots] at X28 l28 y28 z28 st28 hQ28
    subst l28 y28 z28
    obtain ⟨rfl, Nq28, e28⟩ := hQ28
    have N28 := Fr.app N0 Nq28
    refine Goes.by st28 ?_
    refine Goes.by (fun _ k => XS.astoreN X28.here hx rfl (hb hby at_12) rfl rfl (l' := #[.val (.int p1), .val (.int (4 : Int32)), .val (.ref (w 6)), .unset, .unset]) rfl (XS.iloadN X28.here hx rfl (hb hby at_13) rfl (XS.ifNo X28.here hx rfl (hb hby at_14) rfl ((if0 _ _).trans (feq (by decide : ¬ ((4 : Int32) = (0 : Int32)))).1) k))) ?_
    show Goes p e below (T28.setTop (mkF m 17 #[.val (.int p1), .val (.int (4 : Int32)), .val (.ref (w 6)), .unset, .unset] [])) _
    refine Goes.by (fun _ k => XS.iloadN X28.here hx rfl (hb hby at_17) rfl (XS.iconst X28.here hx rfl (hb hby at_18) (XS.icmpNo X28.here hx rfl (hb hby at_19) rfl (feq (by decide : ¬ ((4 : Int32) = (3 : Int32)))).1 k))) ?_
    show Goes p e below (T28.setTop (mkF m 22 #[.val (.int p1), .val (.int (4 : Int32)), .val (.ref (w 6)), .unset, .unset] [])) _
    refine Goes.by (fun _ k => XS.iloadN X28.here hx rfl (hb hby at_22) rfl (XS.bipush X28.here hx rfl (hb hby at_23) (XS.icmpNo X28.here hx rfl (hb hby at_25) rfl (feq (by decide : ¬ ((4 : Int32) = (6 : Int32)))).1 k))) ?_
    show Goes p e below (T28.setTop (mkF m 28 #[.val (.int p1), .val (.int (4 : Int32)), .val (.ref (w 6)), .unset, .unset] [])) _
    refine Goes.by (fun _ k => XS.iloadN X28.here hx rfl (hb hby at_28) rfl (XS.bipush X28.here hx rfl (hb hby at_29) (XS.icmpYes X28.here hx rfl (pc0 := 31) (pc' := 38) rfl (hb hby at_31) rfl (feq (by decide : ¬ ((4 : Int32) = (7 : Int32)))).2 (by decide) (by decide) k))) ?_
    show Goes p e below (T28.setTop (mkF m 38 #[.val (.int p1), .val (.int (4 : Int32)), .val (.ref (w 6)), .unset, .unset] [])) _
    refine Goes.by (fun _ k => XS.iconst X28.here hx rfl (hb hby at_38) (XS.istoreN X28.here hx rfl (hb hby at_39) rfl (l' := #[.val (.int p1), .val (.int (4 : Int32)), .val (.ref (w 6)), .val (.int (0 : Int32)), .unset]) rfl (XS.aloadN X28.here hx rfl (hb hby at_40) rfl rfl k))) ?_
    obtain ⟨cq31, kq31, q31a, q31b, q31c⟩ := isOf hZ e28 P.2.2.2.2.2.2.2.2.2.2.2.2.2.1
    obtain ⟨_, _, ⟨T31, L31, k31, n31⟩, -, X31, ⟨Lc31, hQ31, l31, y31, z31⟩, st31⟩ := X28.virtualBack hx (y := (⟨"com/example/knot3/knot3/definition/Attribute", "inherited", "()Z"⟩ : MethodName)) (z := (⟨"com/example/knot3/knot3/definition/Attribute", "inherited", "()Z"⟩ : MethodName)) hown (mvT hZ (hw _ (List.mem_of_getElem? (i := 8) rfl))) (mvT hZ (hw _ (List.mem_of_getElem? (i := 9) rfl))) (notFace_of_selects (args := #[]) (mvT hZ (hw _ (List.mem_of_getElem? (i := 11) rfl)))) (mvT hZ (hw _ (List.mem_of_getElem? (i := 11) rfl))) (mvT hZ (hw _ (List.mem_of_getElem? (i := 10) rfl))) (by decide) (backOf (W := 0) (r2_11 l Z a0 hw [] h0 n0 Z0 w P) hZ (hw _ (List.mem_of_getElem? (i := 12) rfl)) (hw _ (List.mem_of_getElem? (i := 6) rfl)) (by decide) (by decide)) q31a q31c (g := (mkF m 41 #[.val (.int p1), .val (.int (4 : Int32)), .val (.ref (w 6)), .val (.int (0 : Int32)), .unset] [(.ref (w 6))])) rfl (by rw [hml]; rfl) (Steps.refl _) (argsL := []) (rest := []) (lenOf pd1 rfl) rfl (by show 2 * 0 + _ ≤ _; exact Nat.le_of_eq rfl) (hb hby at_41) (fun _ _ => ⟨rfl, e28, (by decide : 0 + 0 ≤ _), (by decide : 0 + 0 ≤ _)⟩)
    dsimp only [Pt.U, Pt.locs, Pt.cells, Pt.slots] at X31 l31 y31 z31 st31 hQ31
    subst l31 y31 z31
    obtain ⟨rfl, Nq31, e31⟩ := hQ31
    have N31 := Fr.app N28 Nq31
    refine Goes.tr st31 ?_
    refine Goes.by (fun _ k => XS.istore X31.here hx rfl (hb hby at_44) rfl (l' := #[.val (.int p1), .val (.int (4 : Int32)), .val (.ref (w 6)), .val (.int (0 : Int32)), .val (.int (0 : Int32))]) rfl (XS.iload X31.here hx rfl (hb hby at_46) rfl (XS.ifYes X31.here hx rfl (pc0 := 48) (pc' := 60) rfl (hb hby at_48) rfl ((if0 _ _).trans (teq (by decide : (0 : Int32) = (0 : Int32))).1) (by decide) (by decide) k))) ?_
    show Goes p e below (T31.setTop (mkF m 60 #[.val (.int p1), .val (.int (4 : Int32)), .val (.ref (w 6)), .val (.int (0 : Int32)), .val (.int (0 : Int32))] [])) _
    refine Goes.by (fun _ k => XS.iload X31.here hx rfl (hb hby at_60) rfl (XS.iloadN X31.here hx rfl (hb hby at_62) rfl (XS.icmpNo X31.here hx rfl (hb hby at_63) rfl (teq (by decide : (0 : Int32) = (0 : Int32))).2 k))) ?_
    show Goes p e below (T31.setTop (mkF m 66 #[.val (.int p1), .val (.int (4 : Int32)), .val (.ref (w 6)), .val (.int (0 : Int32)), .val (.int (0 : Int32))] [])) _
    refine Goes.by (fun _ k => XS.iconst X31.here hx rfl (hb hby at_66) (XS.goto X31.here hx rfl (pc0 := 67) (pc' := 71) rfl (hb hby at_67) (by decide) (by decide) k)) ?_
    show Goes p e below (T31.setTop (mkF m 71 #[.val (.int p1), .val (.int (4 : Int32)), .val (.ref (w 6)), .val (.int (0 : Int32)), .val (.int (0 : Int32))] [(.int (1 : Int32))])) _
    obtain ⟨fs, hr, hrun, hended, hW, hsame⟩ := X31.leave (v := some (.int (1 : Int32))) (fun h => by rw [Bd.returns] at h; cases h)
    exact ⟨_, _, retN X31 hx (t := .boolean) Bd.returns (by simp) (hb hby at_71) hr, hrun, hended, _, _, rfl, ⟨rfl, N31⟩, ⟨_, rfl⟩, hW, hsame.mono (by decide) (by decide)⟩
  · show Goes p e below (s₁.setTop (mkF m 8 #[.val (.int p1), .val (.int (5 : Int32)), .unset, .unset, .unset] [])) _
    refine Goes.by (fun _ k => XS.iloadN X0.here hx rfl (hb hby at_8) rfl k) ?_
    obtain ⟨_, _, ⟨T33, L33, k33, n33⟩, -, X33, ⟨Lc33, hQ33, l33, y33, z33⟩, st33⟩ := Jvm.LawKit.callS X0 hx (y := (⟨"com/example/knot3/knot3/definition/AttributeInheritedPinLaw", "pick", "(I)Lcom/example/knot3/knot3/definition/Attribute;"⟩ : MethodName)) hown (mvT hZ (hw _ (List.mem_of_getElem? (i := 1) rfl))) (mvT hZ (hw _ (List.mem_of_getElem? (i := 2) rfl))) (mvT hZ (hw _ (List.mem_of_getElem? (i := 3) rfl))) (mvT hZ (hw _ (List.mem_of_getElem? (i := 4) rfl))) (by decide) (backOf (W := 0) (r1_12 l Z a0 hw [] h0 n0 Z0 w P) hZ (hw _ (List.mem_of_getElem? (i := 4) rfl)) (hw _ (List.mem_of_getElem? (i := 3) rfl)) (by decide) (by decide)) (g := (mkF m 9 #[.val (.int p1), .val (.int (5 : Int32)), .unset, .unset, .unset] [(.int (5 : Int32))])) rfl (by rw [hml]; rfl) (argsL := [(.int (5 : Int32))]) (rest := []) (lenOf pd0 rfl) rfl (by show 2 * 0 + _ ≤ _; exact Nat.le_of_eq rfl) (hb hby at_9) (fun _ _ => ⟨rfl, e0, (by decide : 0 + 0 ≤ _), (by decide : 0 + 0 ≤ _)⟩)
    dsimp only [Pt.U, Pt.locs, Pt.cells, Pt.slots] at X33 l33 y33 z33 st33 hQ33
    subst l33 y33 z33
    obtain ⟨rfl, Nq33, e33⟩ := hQ33
    have N33 := Fr.app N0 Nq33
    refine Goes.by st33 ?_
    refine Goes.by (fun _ k => XS.astoreN X33.here hx rfl (hb hby at_12) rfl rfl (l' := #[.val (.int p1), .val (.int (5 : Int32)), .val (.ref (w 11)), .unset, .unset]) rfl (XS.iloadN X33.here hx rfl (hb hby at_13) rfl (XS.ifNo X33.here hx rfl (hb hby at_14) rfl ((if0 _ _).trans (feq (by decide : ¬ ((5 : Int32) = (0 : Int32)))).1) k))) ?_
    show Goes p e below (T33.setTop (mkF m 17 #[.val (.int p1), .val (.int (5 : Int32)), .val (.ref (w 11)), .unset, .unset] [])) _
    refine Goes.by (fun _ k => XS.iloadN X33.here hx rfl (hb hby at_17) rfl (XS.iconst X33.here hx rfl (hb hby at_18) (XS.icmpNo X33.here hx rfl (hb hby at_19) rfl (feq (by decide : ¬ ((5 : Int32) = (3 : Int32)))).1 k))) ?_
    show Goes p e below (T33.setTop (mkF m 22 #[.val (.int p1), .val (.int (5 : Int32)), .val (.ref (w 11)), .unset, .unset] [])) _
    refine Goes.by (fun _ k => XS.iloadN X33.here hx rfl (hb hby at_22) rfl (XS.bipush X33.here hx rfl (hb hby at_23) (XS.icmpNo X33.here hx rfl (hb hby at_25) rfl (feq (by decide : ¬ ((5 : Int32) = (6 : Int32)))).1 k))) ?_
    show Goes p e below (T33.setTop (mkF m 28 #[.val (.int p1), .val (.int (5 : Int32)), .val (.ref (w 11)), .unset, .unset] [])) _
    refine Goes.by (fun _ k => XS.iloadN X33.here hx rfl (hb hby at_28) rfl (XS.bipush X33.here hx rfl (hb hby at_29) (XS.icmpYes X33.here hx rfl (pc0 := 31) (pc' := 38) rfl (hb hby at_31) rfl (feq (by decide : ¬ ((5 : Int32) = (7 : Int32)))).2 (by decide) (by decide) k))) ?_
    show Goes p e below (T33.setTop (mkF m 38 #[.val (.int p1), .val (.int (5 : Int32)), .val (.ref (w 11)), .unset, .unset] [])) _
    refine Goes.by (fun _ k => XS.iconst X33.here hx rfl (hb hby at_38) (XS.istoreN X33.here hx rfl (hb hby at_39) rfl (l' := #[.val (.int p1), .val (.int (5 : Int32)), .val (.ref (w 11)), .val (.int (0 : Int32)), .unset]) rfl (XS.aloadN X33.here hx rfl (hb hby at_40) rfl rfl k))) ?_
    obtain ⟨cq36, kq36, q36a, q36b, q36c⟩ := isOf hZ e33 P.2.2.2.2.2.2.2.2.2.2.2.2.2.2.2.2.2.2.2.2.2.2.2.1
    obtain ⟨_, _, ⟨T36, L36, k36, n36⟩, -, X36, ⟨Lc36, hQ36, l36, y36, z36⟩, st36⟩ := X33.virtualBack hx (y := (⟨"com/example/knot3/knot3/definition/Attribute", "inherited", "()Z"⟩ : MethodName)) (z := (⟨"com/example/knot3/knot3/definition/Attribute", "inherited", "()Z"⟩ : MethodName)) hown (mvT hZ (hw _ (List.mem_of_getElem? (i := 8) rfl))) (mvT hZ (hw _ (List.mem_of_getElem? (i := 9) rfl))) (notFace_of_selects (args := #[]) (mvT hZ (hw _ (List.mem_of_getElem? (i := 11) rfl)))) (mvT hZ (hw _ (List.mem_of_getElem? (i := 11) rfl))) (mvT hZ (hw _ (List.mem_of_getElem? (i := 10) rfl))) (by decide) (backOf (W := 0) (r2_13 l Z a0 hw [] h0 n0 Z0 w P) hZ (hw _ (List.mem_of_getElem? (i := 12) rfl)) (hw _ (List.mem_of_getElem? (i := 6) rfl)) (by decide) (by decide)) q36a q36c (g := (mkF m 41 #[.val (.int p1), .val (.int (5 : Int32)), .val (.ref (w 11)), .val (.int (0 : Int32)), .unset] [(.ref (w 11))])) rfl (by rw [hml]; rfl) (Steps.refl _) (argsL := []) (rest := []) (lenOf pd1 rfl) rfl (by show 2 * 0 + _ ≤ _; exact Nat.le_of_eq rfl) (hb hby at_41) (fun _ _ => ⟨rfl, e33, (by decide : 0 + 0 ≤ _), (by decide : 0 + 0 ≤ _)⟩)
    dsimp only [Pt.U, Pt.locs, Pt.cells, Pt.slots] at X36 l36 y36 z36 st36 hQ36
    subst l36 y36 z36
    obtain ⟨rfl, Nq36, e36⟩ := hQ36
    have N36 := Fr.app N33 Nq36
    refine Goes.tr st36 ?_
    refine Goes.by (fun _ k => XS.istore X36.here hx rfl (hb hby at_44) rfl (l' := #[.val (.int p1), .val (.int (5 : Int32)), .val (.ref (w 11)), .val (.int (0 : Int32)), .val (.int (0 : Int32))]) rfl (XS.iload X36.here hx rfl (hb hby at_46) rfl (XS.ifYes X36.here hx rfl (pc0 := 48) (pc' := 60) rfl (hb hby at_48) rfl ((if0 _ _).trans (teq (by decide : (0 : Int32) = (0 : Int32))).1) (by decide) (by decide) k))) ?_
    show Goes p e below (T36.setTop (mkF m 60 #[.val (.int p1), .val (.int (5 : Int32)), .val (.ref (w 11)), .val (.int (0 : Int32)), .val (.int (0 : Int32))] [])) _
    refine Goes.by (fun _ k => XS.iload X36.here hx rfl (hb hby at_60) rfl (XS.iloadN X36.here hx rfl (hb hby at_62) rfl (XS.icmpNo X36.here hx rfl (hb hby at_63) rfl (teq (by decide : (0 : Int32) = (0 : Int32))).2 k))) ?_
    show Goes p e below (T36.setTop (mkF m 66 #[.val (.int p1), .val (.int (5 : Int32)), .val (.ref (w 11)), .val (.int (0 : Int32)), .val (.int (0 : Int32))] [])) _
    refine Goes.by (fun _ k => XS.iconst X36.here hx rfl (hb hby at_66) (XS.goto X36.here hx rfl (pc0 := 67) (pc' := 71) rfl (hb hby at_67) (by decide) (by decide) k)) ?_
    show Goes p e below (T36.setTop (mkF m 71 #[.val (.int p1), .val (.int (5 : Int32)), .val (.ref (w 11)), .val (.int (0 : Int32)), .val (.int (0 : Int32))] [(.int (1 : Int32))])) _
    obtain ⟨fs, hr, hrun, hended, hW, hsame⟩ := X36.leave (v := some (.int (1 : Int32))) (fun h => by rw [Bd.returns] at h; cases h)
    exact ⟨_, _, retN X36 hx (t := .boolean) Bd.returns (by simp) (hb hby at_71) hr, hrun, hended, _, _, rfl, ⟨rfl, N36⟩, ⟨_, rfl⟩, hW, hsame.mono (by decide) (by decide)⟩
  · show Goes p e below (s₁.setTop (mkF m 8 #[.val (.int p1), .val (.int (6 : Int32)), .unset, .unset, .unset] [])) _
    refine Goes.by (fun _ k => XS.iloadN X0.here hx rfl (hb hby at_8) rfl k) ?_
    obtain ⟨_, _, ⟨T38, L38, k38, n38⟩, -, X38, ⟨Lc38, hQ38, l38, y38, z38⟩, st38⟩ := Jvm.LawKit.callS X0 hx (y := (⟨"com/example/knot3/knot3/definition/AttributeInheritedPinLaw", "pick", "(I)Lcom/example/knot3/knot3/definition/Attribute;"⟩ : MethodName)) hown (mvT hZ (hw _ (List.mem_of_getElem? (i := 1) rfl))) (mvT hZ (hw _ (List.mem_of_getElem? (i := 2) rfl))) (mvT hZ (hw _ (List.mem_of_getElem? (i := 3) rfl))) (mvT hZ (hw _ (List.mem_of_getElem? (i := 4) rfl))) (by decide) (backOf (W := 0) (r1_14 l Z a0 hw [] h0 n0 Z0 w P) hZ (hw _ (List.mem_of_getElem? (i := 4) rfl)) (hw _ (List.mem_of_getElem? (i := 3) rfl)) (by decide) (by decide)) (g := (mkF m 9 #[.val (.int p1), .val (.int (6 : Int32)), .unset, .unset, .unset] [(.int (6 : Int32))])) rfl (by rw [hml]; rfl) (argsL := [(.int (6 : Int32))]) (rest := []) (lenOf pd0 rfl) rfl (by show 2 * 0 + _ ≤ _; exact Nat.le_of_eq rfl) (hb hby at_9) (fun _ _ => ⟨rfl, e0, (by decide : 0 + 0 ≤ _), (by decide : 0 + 0 ≤ _)⟩)
    dsimp only [Pt.U, Pt.locs, Pt.cells, Pt.slots] at X38 l38 y38 z38 st38 hQ38
    subst l38 y38 z38
    obtain ⟨rfl, Nq38, e38⟩ := hQ38
    have N38 := Fr.app N0 Nq38
    refine Goes.by st38 ?_
    refine Goes.by (fun _ k => XS.astoreN X38.here hx rfl (hb hby at_12) rfl rfl (l' := #[.val (.int p1), .val (.int (6 : Int32)), .val (.ref (w 12)), .unset, .unset]) rfl (XS.iloadN X38.here hx rfl (hb hby at_13) rfl (XS.ifNo X38.here hx rfl (hb hby at_14) rfl ((if0 _ _).trans (feq (by decide : ¬ ((6 : Int32) = (0 : Int32)))).1) k))) ?_
    show Goes p e below (T38.setTop (mkF m 17 #[.val (.int p1), .val (.int (6 : Int32)), .val (.ref (w 12)), .unset, .unset] [])) _
    refine Goes.by (fun _ k => XS.iloadN X38.here hx rfl (hb hby at_17) rfl (XS.iconst X38.here hx rfl (hb hby at_18) (XS.icmpNo X38.here hx rfl (hb hby at_19) rfl (feq (by decide : ¬ ((6 : Int32) = (3 : Int32)))).1 k))) ?_
    show Goes p e below (T38.setTop (mkF m 22 #[.val (.int p1), .val (.int (6 : Int32)), .val (.ref (w 12)), .unset, .unset] [])) _
    refine Goes.by (fun _ k => XS.iloadN X38.here hx rfl (hb hby at_22) rfl (XS.bipush X38.here hx rfl (hb hby at_23) (XS.icmpYes X38.here hx rfl (pc0 := 25) (pc' := 34) rfl (hb hby at_25) rfl (teq (by decide : (6 : Int32) = (6 : Int32))).1 (by decide) (by decide) k))) ?_
    show Goes p e below (T38.setTop (mkF m 34 #[.val (.int p1), .val (.int (6 : Int32)), .val (.ref (w 12)), .unset, .unset] [])) _
    refine Goes.by (fun _ k => XS.iconst X38.here hx rfl (hb hby at_34) (XS.goto X38.here hx rfl (pc0 := 35) (pc' := 39) rfl (hb hby at_35) (by decide) (by decide) (XS.istoreN X38.here hx rfl (hb hby at_39) rfl (l' := #[.val (.int p1), .val (.int (6 : Int32)), .val (.ref (w 12)), .val (.int (1 : Int32)), .unset]) rfl k))) ?_
    show Goes p e below (T38.setTop (mkF m 40 #[.val (.int p1), .val (.int (6 : Int32)), .val (.ref (w 12)), .val (.int (1 : Int32)), .unset] [])) _
    refine Goes.by (fun _ k => XS.aloadN X38.here hx rfl (hb hby at_40) rfl rfl k) ?_
    obtain ⟨cq41, kq41, q41a, q41b, q41c⟩ := isOf hZ e38 P.2.2.2.2.2.2.2.2.2.2.2.2.2.2.2.2.2.2.2.2.2.2.2.2.2.1
    obtain ⟨_, _, ⟨T41, L41, k41, n41⟩, -, X41, ⟨Lc41, hQ41, l41, y41, z41⟩, st41⟩ := X38.virtualBack hx (y := (⟨"com/example/knot3/knot3/definition/Attribute", "inherited", "()Z"⟩ : MethodName)) (z := (⟨"com/example/knot3/knot3/definition/Attribute", "inherited", "()Z"⟩ : MethodName)) hown (mvT hZ (hw _ (List.mem_of_getElem? (i := 8) rfl))) (mvT hZ (hw _ (List.mem_of_getElem? (i := 9) rfl))) (notFace_of_selects (args := #[]) (mvT hZ (hw _ (List.mem_of_getElem? (i := 11) rfl)))) (mvT hZ (hw _ (List.mem_of_getElem? (i := 11) rfl))) (mvT hZ (hw _ (List.mem_of_getElem? (i := 10) rfl))) (by decide) (backOf (W := 0) (r2_15 l Z a0 hw [] h0 n0 Z0 w P) hZ (hw _ (List.mem_of_getElem? (i := 12) rfl)) (hw _ (List.mem_of_getElem? (i := 6) rfl)) (by decide) (by decide)) q41a q41c (g := (mkF m 41 #[.val (.int p1), .val (.int (6 : Int32)), .val (.ref (w 12)), .val (.int (1 : Int32)), .unset] [(.ref (w 12))])) rfl (by rw [hml]; rfl) (Steps.refl _) (argsL := []) (rest := []) (lenOf pd1 rfl) rfl (by show 2 * 0 + _ ≤ _; exact Nat.le_of_eq rfl) (hb hby at_41) (fun _ _ => ⟨rfl, e38, (by decide : 0 + 0 ≤ _), (by decide : 0 + 0 ≤ _)⟩)
    dsimp only [Pt.U, Pt.locs, Pt.cells, Pt.slots] at X41 l41 y41 z41 st41 hQ41
    subst l41 y41 z41
    obtain ⟨rfl, Nq41, e41⟩ := hQ41
    have N41 := Fr.app N38 Nq41
    refine Goes.tr st41 ?_
    refine Goes.by (fun _ k => XS.istore X41.here hx rfl (hb hby at_44) rfl (l' := #[.val (.int p1), .val (.int (6 : Int32)), .val (.ref (w 12)), .val (.int (1 : Int32)), .val (.int (1 : Int32))]) rfl (XS.iload X41.here hx rfl (hb hby at_46) rfl (XS.ifNo X41.here hx rfl (hb hby at_48) rfl ((if0 _ _).trans (feq (by decide : ¬ ((1 : Int32) = (0 : Int32)))).1) k))) ?_
    show Goes p e below (T41.setTop (mkF m 51 #[.val (.int p1), .val (.int (6 : Int32)), .val (.ref (w 12)), .val (.int (1 : Int32)), .val (.int (1 : Int32))] [])) _
    refine Goes.by (fun _ k => XS.aloadN X41.here hx rfl (hb hby at_51) rfl rfl k) ?_
    obtain ⟨cq44, kq44, q44a, q44b, q44c⟩ := isOf hZ e41 P.2.2.2.2.2.2.2.2.2.2.2.2.2.2.2.2.2.2.2.2.2.2.2.2.2.1
    obtain ⟨_, _, ⟨T44, L44, k44, n44⟩, -, X44, ⟨Lc44, hQ44, l44, y44, z44⟩, st44⟩ := X41.virtualBack hx (y := (⟨"com/example/knot3/knot3/definition/Attribute", "fileWide", "()Z"⟩ : MethodName)) (z := (⟨"com/example/knot3/knot3/definition/Attribute", "fileWide", "()Z"⟩ : MethodName)) hown (mvT hZ (hw _ (List.mem_of_getElem? (i := 18) rfl))) (mvT hZ (hw _ (List.mem_of_getElem? (i := 19) rfl))) (notFace_of_selects (args := #[]) (mvT hZ (hw _ (List.mem_of_getElem? (i := 21) rfl)))) (mvT hZ (hw _ (List.mem_of_getElem? (i := 21) rfl))) (mvT hZ (hw _ (List.mem_of_getElem? (i := 20) rfl))) (by decide) (backOf (W := 0) (r3_16 l Z a0 hw [] h0 n0 Z0 w P) hZ (hw _ (List.mem_of_getElem? (i := 22) rfl)) (hw _ (List.mem_of_getElem? (i := 6) rfl)) (by decide) (by decide)) q44a q44c (g := (mkF m 52 #[.val (.int p1), .val (.int (6 : Int32)), .val (.ref (w 12)), .val (.int (1 : Int32)), .val (.int (1 : Int32))] [(.ref (w 12))])) rfl (by rw [hml]; rfl) (Steps.refl _) (argsL := []) (rest := []) (lenOf pd1 rfl) rfl (by show 2 * 0 + _ ≤ _; exact Nat.le_of_eq rfl) (hb hby at_52) (fun _ _ => ⟨rfl, e41, (by decide : 0 + 0 ≤ _), (by decide : 0 + 0 ≤ _)⟩)
    dsimp only [Pt.U, Pt.locs, Pt.cells, Pt.slots] at X44 l44 y44 z44 st44 hQ44
    subst l44 y44 z44
    obtain ⟨rfl, Nq44, e44⟩ := hQ44
    have N44 := Fr.app N41 Nq44
    refine Goes.tr st44 ?_
    refine Goes.by (fun _ k => XS.ifYes X44.here hx rfl (pc0 := 55) (pc' := 60) rfl (hb hby at_55) rfl ((if0 _ _).trans (teq (by decide : (0 : Int32) = (0 : Int32))).1) (by decide) (by decide) (XS.iload X44.here hx rfl (hb hby at_60) rfl (XS.iloadN X44.here hx rfl (hb hby at_62) rfl k))) ?_
    show Goes p e below (T44.setTop (mkF m 63 #[.val (.int p1), .val (.int (6 : Int32)), .val (.ref (w 12)), .val (.int (1 : Int32)), .val (.int (1 : Int32))] [(.int (1 : Int32)), (.int (1 : Int32))])) _
    refine Goes.by (fun _ k => XS.icmpNo X44.here hx rfl (hb hby at_63) rfl (teq (by decide : (1 : Int32) = (1 : Int32))).2 (XS.iconst X44.here hx rfl (hb hby at_66) (XS.goto X44.here hx rfl (pc0 := 67) (pc' := 71) rfl (hb hby at_67) (by decide) (by decide) k))) ?_
    show Goes p e below (T44.setTop (mkF m 71 #[.val (.int p1), .val (.int (6 : Int32)), .val (.ref (w 12)), .val (.int (1 : Int32)), .val (.int (1 : Int32))] [(.int (1 : Int32))])) _
    obtain ⟨fs, hr, hrun, hended, hW, hsame⟩ := X44.leave (v := some (.int (1 : Int32))) (fun h => by rw [Bd.returns] at h; cases h)
    exact ⟨_, _, retN X44 hx (t := .boolean) Bd.returns (by simp) (hb hby at_71) hr, hrun, hended, _, _, rfl, ⟨rfl, N44⟩, ⟨_, rfl⟩, hW, hsame.mono (by decide) (by decide)⟩
  · show Goes p e below (s₁.setTop (mkF m 8 #[.val (.int p1), .val (.int (7 : Int32)), .unset, .unset, .unset] [])) _
    refine Goes.by (fun _ k => XS.iloadN X0.here hx rfl (hb hby at_8) rfl k) ?_
    obtain ⟨_, _, ⟨T46, L46, k46, n46⟩, -, X46, ⟨Lc46, hQ46, l46, y46, z46⟩, st46⟩ := Jvm.LawKit.callS X0 hx (y := (⟨"com/example/knot3/knot3/definition/AttributeInheritedPinLaw", "pick", "(I)Lcom/example/knot3/knot3/definition/Attribute;"⟩ : MethodName)) hown (mvT hZ (hw _ (List.mem_of_getElem? (i := 1) rfl))) (mvT hZ (hw _ (List.mem_of_getElem? (i := 2) rfl))) (mvT hZ (hw _ (List.mem_of_getElem? (i := 3) rfl))) (mvT hZ (hw _ (List.mem_of_getElem? (i := 4) rfl))) (by decide) (backOf (W := 0) (r1_17 l Z a0 hw [] h0 n0 Z0 w P) hZ (hw _ (List.mem_of_getElem? (i := 4) rfl)) (hw _ (List.mem_of_getElem? (i := 3) rfl)) (by decide) (by decide)) (g := (mkF m 9 #[.val (.int p1), .val (.int (7 : Int32)), .unset, .unset, .unset] [(.int (7 : Int32))])) rfl (by rw [hml]; rfl) (argsL := [(.int (7 : Int32))]) (rest := []) (lenOf pd0 rfl) rfl (by show 2 * 0 + _ ≤ _; exact Nat.le_of_eq rfl) (hb hby at_9) (fun _ _ => ⟨rfl, e0, (by decide : 0 + 0 ≤ _), (by decide : 0 + 0 ≤ _)⟩)
    dsimp only [Pt.U, Pt.locs, Pt.cells, Pt.slots] at X46 l46 y46 z46 st46 hQ46
    subst l46 y46 z46
    obtain ⟨rfl, Nq46, e46⟩ := hQ46
    have N46 := Fr.app N0 Nq46
    refine Goes.by st46 ?_
    refine Goes.by (fun _ k => XS.astoreN X46.here hx rfl (hb hby at_12) rfl rfl (l' := #[.val (.int p1), .val (.int (7 : Int32)), .val (.ref (w 7)), .unset, .unset]) rfl (XS.iloadN X46.here hx rfl (hb hby at_13) rfl (XS.ifNo X46.here hx rfl (hb hby at_14) rfl ((if0 _ _).trans (feq (by decide : ¬ ((7 : Int32) = (0 : Int32)))).1) k))) ?_
    show Goes p e below (T46.setTop (mkF m 17 #[.val (.int p1), .val (.int (7 : Int32)), .val (.ref (w 7)), .unset, .unset] [])) _
    refine Goes.by (fun _ k => XS.iloadN X46.here hx rfl (hb hby at_17) rfl (XS.iconst X46.here hx rfl (hb hby at_18) (XS.icmpNo X46.here hx rfl (hb hby at_19) rfl (feq (by decide : ¬ ((7 : Int32) = (3 : Int32)))).1 k))) ?_
    show Goes p e below (T46.setTop (mkF m 22 #[.val (.int p1), .val (.int (7 : Int32)), .val (.ref (w 7)), .unset, .unset] [])) _
    refine Goes.by (fun _ k => XS.iloadN X46.here hx rfl (hb hby at_22) rfl (XS.bipush X46.here hx rfl (hb hby at_23) (XS.icmpNo X46.here hx rfl (hb hby at_25) rfl (feq (by decide : ¬ ((7 : Int32) = (6 : Int32)))).1 k))) ?_
    show Goes p e below (T46.setTop (mkF m 28 #[.val (.int p1), .val (.int (7 : Int32)), .val (.ref (w 7)), .unset, .unset] [])) _
    refine Goes.by (fun _ k => XS.iloadN X46.here hx rfl (hb hby at_28) rfl (XS.bipush X46.here hx rfl (hb hby at_29) (XS.icmpNo X46.here hx rfl (hb hby at_31) rfl (teq (by decide : (7 : Int32) = (7 : Int32))).2 k))) ?_
    show Goes p e below (T46.setTop (mkF m 34 #[.val (.int p1), .val (.int (7 : Int32)), .val (.ref (w 7)), .unset, .unset] [])) _
    refine Goes.by (fun _ k => XS.iconst X46.here hx rfl (hb hby at_34) (XS.goto X46.here hx rfl (pc0 := 35) (pc' := 39) rfl (hb hby at_35) (by decide) (by decide) (XS.istoreN X46.here hx rfl (hb hby at_39) rfl (l' := #[.val (.int p1), .val (.int (7 : Int32)), .val (.ref (w 7)), .val (.int (1 : Int32)), .unset]) rfl k))) ?_
    show Goes p e below (T46.setTop (mkF m 40 #[.val (.int p1), .val (.int (7 : Int32)), .val (.ref (w 7)), .val (.int (1 : Int32)), .unset] [])) _
    refine Goes.by (fun _ k => XS.aloadN X46.here hx rfl (hb hby at_40) rfl rfl k) ?_
    obtain ⟨cq49, kq49, q49a, q49b, q49c⟩ := isOf hZ e46 P.2.2.2.2.2.2.2.2.2.2.2.2.2.2.2.1
    obtain ⟨_, _, ⟨T49, L49, k49, n49⟩, -, X49, ⟨Lc49, hQ49, l49, y49, z49⟩, st49⟩ := X46.virtualBack hx (y := (⟨"com/example/knot3/knot3/definition/Attribute", "inherited", "()Z"⟩ : MethodName)) (z := (⟨"com/example/knot3/knot3/definition/Attribute", "inherited", "()Z"⟩ : MethodName)) hown (mvT hZ (hw _ (List.mem_of_getElem? (i := 8) rfl))) (mvT hZ (hw _ (List.mem_of_getElem? (i := 9) rfl))) (notFace_of_selects (args := #[]) (mvT hZ (hw _ (List.mem_of_getElem? (i := 11) rfl)))) (mvT hZ (hw _ (List.mem_of_getElem? (i := 11) rfl))) (mvT hZ (hw _ (List.mem_of_getElem? (i := 10) rfl))) (by decide) (backOf (W := 0) (r2_18 l Z a0 hw [] h0 n0 Z0 w P) hZ (hw _ (List.mem_of_getElem? (i := 12) rfl)) (hw _ (List.mem_of_getElem? (i := 6) rfl)) (by decide) (by decide)) q49a q49c (g := (mkF m 41 #[.val (.int p1), .val (.int (7 : Int32)), .val (.ref (w 7)), .val (.int (1 : Int32)), .unset] [(.ref (w 7))])) rfl (by rw [hml]; rfl) (Steps.refl _) (argsL := []) (rest := []) (lenOf pd1 rfl) rfl (by show 2 * 0 + _ ≤ _; exact Nat.le_of_eq rfl) (hb hby at_41) (fun _ _ => ⟨rfl, e46, (by decide : 0 + 0 ≤ _), (by decide : 0 + 0 ≤ _)⟩)
    dsimp only [Pt.U, Pt.locs, Pt.cells, Pt.slots] at X49 l49 y49 z49 st49 hQ49
    subst l49 y49 z49
    obtain ⟨rfl, Nq49, e49⟩ := hQ49
    have N49 := Fr.app N46 Nq49
    refine Goes.tr st49 ?_
    refine Goes.by (fun _ k => XS.istore X49.here hx rfl (hb hby at_44) rfl (l' := #[.val (.int p1), .val (.int (7 : Int32)), .val (.ref (w 7)), .val (.int (1 : Int32)), .val (.int (1 : Int32))]) rfl (XS.iload X49.here hx rfl (hb hby at_46) rfl (XS.ifNo X49.here hx rfl (hb hby at_48) rfl ((if0 _ _).trans (feq (by decide : ¬ ((1 : Int32) = (0 : Int32)))).1) k))) ?_
    show Goes p e below (T49.setTop (mkF m 51 #[.val (.int p1), .val (.int (7 : Int32)), .val (.ref (w 7)), .val (.int (1 : Int32)), .val (.int (1 : Int32))] [])) _
    refine Goes.by (fun _ k => XS.aloadN X49.here hx rfl (hb hby at_51) rfl rfl k) ?_
    obtain ⟨cq52, kq52, q52a, q52b, q52c⟩ := isOf hZ e49 P.2.2.2.2.2.2.2.2.2.2.2.2.2.2.2.1
    obtain ⟨_, _, ⟨T52, L52, k52, n52⟩, -, X52, ⟨Lc52, hQ52, l52, y52, z52⟩, st52⟩ := X49.virtualBack hx (y := (⟨"com/example/knot3/knot3/definition/Attribute", "fileWide", "()Z"⟩ : MethodName)) (z := (⟨"com/example/knot3/knot3/definition/Attribute", "fileWide", "()Z"⟩ : MethodName)) hown (mvT hZ (hw _ (List.mem_of_getElem? (i := 18) rfl))) (mvT hZ (hw _ (List.mem_of_getElem? (i := 19) rfl))) (notFace_of_selects (args := #[]) (mvT hZ (hw _ (List.mem_of_getElem? (i := 21) rfl)))) (mvT hZ (hw _ (List.mem_of_getElem? (i := 21) rfl))) (mvT hZ (hw _ (List.mem_of_getElem? (i := 20) rfl))) (by decide) (backOf (W := 0) (r3_19 l Z a0 hw [] h0 n0 Z0 w P) hZ (hw _ (List.mem_of_getElem? (i := 22) rfl)) (hw _ (List.mem_of_getElem? (i := 6) rfl)) (by decide) (by decide)) q52a q52c (g := (mkF m 52 #[.val (.int p1), .val (.int (7 : Int32)), .val (.ref (w 7)), .val (.int (1 : Int32)), .val (.int (1 : Int32))] [(.ref (w 7))])) rfl (by rw [hml]; rfl) (Steps.refl _) (argsL := []) (rest := []) (lenOf pd1 rfl) rfl (by show 2 * 0 + _ ≤ _; exact Nat.le_of_eq rfl) (hb hby at_52) (fun _ _ => ⟨rfl, e49, (by decide : 0 + 0 ≤ _), (by decide : 0 + 0 ≤ _)⟩)
    dsimp only [Pt.U, Pt.locs, Pt.cells, Pt.slots] at X52 l52 y52 z52 st52 hQ52
    subst l52 y52 z52
    obtain ⟨rfl, Nq52, e52⟩ := hQ52
    have N52 := Fr.app N49 Nq52
    refine Goes.tr st52 ?_
    refine Goes.by (fun _ k => XS.ifYes X52.here hx rfl (pc0 := 55) (pc' := 60) rfl (hb hby at_55) rfl ((if0 _ _).trans (teq (by decide : (0 : Int32) = (0 : Int32))).1) (by decide) (by decide) (XS.iload X52.here hx rfl (hb hby at_60) rfl (XS.iloadN X52.here hx rfl (hb hby at_62) rfl k))) ?_
    show Goes p e below (T52.setTop (mkF m 63 #[.val (.int p1), .val (.int (7 : Int32)), .val (.ref (w 7)), .val (.int (1 : Int32)), .val (.int (1 : Int32))] [(.int (1 : Int32)), (.int (1 : Int32))])) _
    refine Goes.by (fun _ k => XS.icmpNo X52.here hx rfl (hb hby at_63) rfl (teq (by decide : (1 : Int32) = (1 : Int32))).2 (XS.iconst X52.here hx rfl (hb hby at_66) (XS.goto X52.here hx rfl (pc0 := 67) (pc' := 71) rfl (hb hby at_67) (by decide) (by decide) k))) ?_
    show Goes p e below (T52.setTop (mkF m 71 #[.val (.int p1), .val (.int (7 : Int32)), .val (.ref (w 7)), .val (.int (1 : Int32)), .val (.int (1 : Int32))] [(.int (1 : Int32))])) _
    obtain ⟨fs, hr, hrun, hended, hW, hsame⟩ := X52.leave (v := some (.int (1 : Int32))) (fun h => by rw [Bd.returns] at h; cases h)
    exact ⟨_, _, retN X52 hx (t := .boolean) Bd.returns (by simp) (hb hby at_71) hr, hrun, hended, _, _, rfl, ⟨rfl, N52⟩, ⟨_, rfl⟩, hW, hsame.mono (by decide) (by decide)⟩
  · show Goes p e below (s₁.setTop (mkF m 8 #[.val (.int p1), .val (.int (8 : Int32)), .unset, .unset, .unset] [])) _
    refine Goes.by (fun _ k => XS.iloadN X0.here hx rfl (hb hby at_8) rfl k) ?_
    obtain ⟨_, _, ⟨T54, L54, k54, n54⟩, -, X54, ⟨Lc54, hQ54, l54, y54, z54⟩, st54⟩ := Jvm.LawKit.callS X0 hx (y := (⟨"com/example/knot3/knot3/definition/AttributeInheritedPinLaw", "pick", "(I)Lcom/example/knot3/knot3/definition/Attribute;"⟩ : MethodName)) hown (mvT hZ (hw _ (List.mem_of_getElem? (i := 1) rfl))) (mvT hZ (hw _ (List.mem_of_getElem? (i := 2) rfl))) (mvT hZ (hw _ (List.mem_of_getElem? (i := 3) rfl))) (mvT hZ (hw _ (List.mem_of_getElem? (i := 4) rfl))) (by decide) (backOf (W := 0) (r1_20 l Z a0 hw [] h0 n0 Z0 w P) hZ (hw _ (List.mem_of_getElem? (i := 4) rfl)) (hw _ (List.mem_of_getElem? (i := 3) rfl)) (by decide) (by decide)) (g := (mkF m 9 #[.val (.int p1), .val (.int (8 : Int32)), .unset, .unset, .unset] [(.int (8 : Int32))])) rfl (by rw [hml]; rfl) (argsL := [(.int (8 : Int32))]) (rest := []) (lenOf pd0 rfl) rfl (by show 2 * 0 + _ ≤ _; exact Nat.le_of_eq rfl) (hb hby at_9) (fun _ _ => ⟨rfl, e0, (by decide : 0 + 0 ≤ _), (by decide : 0 + 0 ≤ _)⟩)
    dsimp only [Pt.U, Pt.locs, Pt.cells, Pt.slots] at X54 l54 y54 z54 st54 hQ54
    subst l54 y54 z54
    obtain ⟨rfl, Nq54, e54⟩ := hQ54
    have N54 := Fr.app N0 Nq54
    refine Goes.by st54 ?_
    refine Goes.by (fun _ k => XS.astoreN X54.here hx rfl (hb hby at_12) rfl rfl (l' := #[.val (.int p1), .val (.int (8 : Int32)), .val (.ref (w 9)), .unset, .unset]) rfl (XS.iloadN X54.here hx rfl (hb hby at_13) rfl (XS.ifNo X54.here hx rfl (hb hby at_14) rfl ((if0 _ _).trans (feq (by decide : ¬ ((8 : Int32) = (0 : Int32)))).1) k))) ?_
    show Goes p e below (T54.setTop (mkF m 17 #[.val (.int p1), .val (.int (8 : Int32)), .val (.ref (w 9)), .unset, .unset] [])) _
    refine Goes.by (fun _ k => XS.iloadN X54.here hx rfl (hb hby at_17) rfl (XS.iconst X54.here hx rfl (hb hby at_18) (XS.icmpNo X54.here hx rfl (hb hby at_19) rfl (feq (by decide : ¬ ((8 : Int32) = (3 : Int32)))).1 k))) ?_
    show Goes p e below (T54.setTop (mkF m 22 #[.val (.int p1), .val (.int (8 : Int32)), .val (.ref (w 9)), .unset, .unset] [])) _
    refine Goes.by (fun _ k => XS.iloadN X54.here hx rfl (hb hby at_22) rfl (XS.bipush X54.here hx rfl (hb hby at_23) (XS.icmpNo X54.here hx rfl (hb hby at_25) rfl (feq (by decide : ¬ ((8 : Int32) = (6 : Int32)))).1 k))) ?_
    show Goes p e below (T54.setTop (mkF m 28 #[.val (.int p1), .val (.int (8 : Int32)), .val (.ref (w 9)), .unset, .unset] [])) _
    refine Goes.by (fun _ k => XS.iloadN X54.here hx rfl (hb hby at_28) rfl (XS.bipush X54.here hx rfl (hb hby at_29) (XS.icmpYes X54.here hx rfl (pc0 := 31) (pc' := 38) rfl (hb hby at_31) rfl (feq (by decide : ¬ ((8 : Int32) = (7 : Int32)))).2 (by decide) (by decide) k))) ?_
    show Goes p e below (T54.setTop (mkF m 38 #[.val (.int p1), .val (.int (8 : Int32)), .val (.ref (w 9)), .unset, .unset] [])) _
    refine Goes.by (fun _ k => XS.iconst X54.here hx rfl (hb hby at_38) (XS.istoreN X54.here hx rfl (hb hby at_39) rfl (l' := #[.val (.int p1), .val (.int (8 : Int32)), .val (.ref (w 9)), .val (.int (0 : Int32)), .unset]) rfl (XS.aloadN X54.here hx rfl (hb hby at_40) rfl rfl k))) ?_
    obtain ⟨cq57, kq57, q57a, q57b, q57c⟩ := isOf hZ e54 P.2.2.2.2.2.2.2.2.2.2.2.2.2.2.2.2.2.2.2.1
    obtain ⟨_, _, ⟨T57, L57, k57, n57⟩, -, X57, ⟨Lc57, hQ57, l57, y57, z57⟩, st57⟩ := X54.virtualBack hx (y := (⟨"com/example/knot3/knot3/definition/Attribute", "inherited", "()Z"⟩ : MethodName)) (z := (⟨"com/example/knot3/knot3/definition/Attribute", "inherited", "()Z"⟩ : MethodName)) hown (mvT hZ (hw _ (List.mem_of_getElem? (i := 8) rfl))) (mvT hZ (hw _ (List.mem_of_getElem? (i := 9) rfl))) (notFace_of_selects (args := #[]) (mvT hZ (hw _ (List.mem_of_getElem? (i := 11) rfl)))) (mvT hZ (hw _ (List.mem_of_getElem? (i := 11) rfl))) (mvT hZ (hw _ (List.mem_of_getElem? (i := 10) rfl))) (by decide) (backOf (W := 0) (r2_21 l Z a0 hw [] h0 n0 Z0 w P) hZ (hw _ (List.mem_of_getElem? (i := 12) rfl)) (hw _ (List.mem_of_getElem? (i := 6) rfl)) (by decide) (by decide)) q57a q57c (g := (mkF m 41 #[.val (.int p1), .val (.int (8 : Int32)), .val (.ref (w 9)), .val (.int (0 : Int32)), .unset] [(.ref (w 9))])) rfl (by rw [hml]; rfl) (Steps.refl _) (argsL := []) (rest := []) (lenOf pd1 rfl) rfl (by show 2 * 0 + _ ≤ _; exact Nat.le_of_eq rfl) (hb hby at_41) (fun _ _ => ⟨rfl, e54, (by decide : 0 + 0 ≤ _), (by decide : 0 + 0 ≤ _)⟩)
    dsimp only [Pt.U, Pt.locs, Pt.cells, Pt.slots] at X57 l57 y57 z57 st57 hQ57
    subst l57 y57 z57
    obtain ⟨rfl, Nq57, e57⟩ := hQ57
    have N57 := Fr.app N54 Nq57
    refine Goes.tr st57 ?_
    refine Goes.by (fun _ k => XS.istore X57.here hx rfl (hb hby at_44) rfl (l' := #[.val (.int p1), .val (.int (8 : Int32)), .val (.ref (w 9)), .val (.int (0 : Int32)), .val (.int (0 : Int32))]) rfl (XS.iload X57.here hx rfl (hb hby at_46) rfl (XS.ifYes X57.here hx rfl (pc0 := 48) (pc' := 60) rfl (hb hby at_48) rfl ((if0 _ _).trans (teq (by decide : (0 : Int32) = (0 : Int32))).1) (by decide) (by decide) k))) ?_
    show Goes p e below (T57.setTop (mkF m 60 #[.val (.int p1), .val (.int (8 : Int32)), .val (.ref (w 9)), .val (.int (0 : Int32)), .val (.int (0 : Int32))] [])) _
    refine Goes.by (fun _ k => XS.iload X57.here hx rfl (hb hby at_60) rfl (XS.iloadN X57.here hx rfl (hb hby at_62) rfl (XS.icmpNo X57.here hx rfl (hb hby at_63) rfl (teq (by decide : (0 : Int32) = (0 : Int32))).2 k))) ?_
    show Goes p e below (T57.setTop (mkF m 66 #[.val (.int p1), .val (.int (8 : Int32)), .val (.ref (w 9)), .val (.int (0 : Int32)), .val (.int (0 : Int32))] [])) _
    refine Goes.by (fun _ k => XS.iconst X57.here hx rfl (hb hby at_66) (XS.goto X57.here hx rfl (pc0 := 67) (pc' := 71) rfl (hb hby at_67) (by decide) (by decide) k)) ?_
    show Goes p e below (T57.setTop (mkF m 71 #[.val (.int p1), .val (.int (8 : Int32)), .val (.ref (w 9)), .val (.int (0 : Int32)), .val (.int (0 : Int32))] [(.int (1 : Int32))])) _
    obtain ⟨fs, hr, hrun, hended, hW, hsame⟩ := X57.leave (v := some (.int (1 : Int32))) (fun h => by rw [Bd.returns] at h; cases h)
    exact ⟨_, _, retN X57 hx (t := .boolean) Bd.returns (by simp) (hb hby at_71) hr, hrun, hended, _, _, rfl, ⟨rfl, N57⟩, ⟨_, rfl⟩, hW, hsame.mono (by decide) (by decide)⟩
  · show Goes p e below (s₁.setTop (mkF m 8 #[.val (.int p1), .val (.int (9 : Int32)), .unset, .unset, .unset] [])) _
    refine Goes.by (fun _ k => XS.iloadN X0.here hx rfl (hb hby at_8) rfl k) ?_
    obtain ⟨_, _, ⟨T59, L59, k59, n59⟩, -, X59, ⟨Lc59, hQ59, l59, y59, z59⟩, st59⟩ := Jvm.LawKit.callS X0 hx (y := (⟨"com/example/knot3/knot3/definition/AttributeInheritedPinLaw", "pick", "(I)Lcom/example/knot3/knot3/definition/Attribute;"⟩ : MethodName)) hown (mvT hZ (hw _ (List.mem_of_getElem? (i := 1) rfl))) (mvT hZ (hw _ (List.mem_of_getElem? (i := 2) rfl))) (mvT hZ (hw _ (List.mem_of_getElem? (i := 3) rfl))) (mvT hZ (hw _ (List.mem_of_getElem? (i := 4) rfl))) (by decide) (backOf (W := 0) (r1_22 l Z a0 hw [] h0 n0 Z0 w P) hZ (hw _ (List.mem_of_getElem? (i := 4) rfl)) (hw _ (List.mem_of_getElem? (i := 3) rfl)) (by decide) (by decide)) (g := (mkF m 9 #[.val (.int p1), .val (.int (9 : Int32)), .unset, .unset, .unset] [(.int (9 : Int32))])) rfl (by rw [hml]; rfl) (argsL := [(.int (9 : Int32))]) (rest := []) (lenOf pd0 rfl) rfl (by show 2 * 0 + _ ≤ _; exact Nat.le_of_eq rfl) (hb hby at_9) (fun _ _ => ⟨rfl, e0, (by decide : 0 + 0 ≤ _), (by decide : 0 + 0 ≤ _)⟩)
    dsimp only [Pt.U, Pt.locs, Pt.cells, Pt.slots] at X59 l59 y59 z59 st59 hQ59
    subst l59 y59 z59
    obtain ⟨rfl, Nq59, e59⟩ := hQ59
    have N59 := Fr.app N0 Nq59
    refine Goes.by st59 ?_
    refine Goes.by (fun _ k => XS.astoreN X59.here hx rfl (hb hby at_12) rfl rfl (l' := #[.val (.int p1), .val (.int (9 : Int32)), .val (.ref (w 10)), .unset, .unset]) rfl (XS.iloadN X59.here hx rfl (hb hby at_13) rfl (XS.ifNo X59.here hx rfl (hb hby at_14) rfl ((if0 _ _).trans (feq (by decide : ¬ ((9 : Int32) = (0 : Int32)))).1) k))) ?_
    show Goes p e below (T59.setTop (mkF m 17 #[.val (.int p1), .val (.int (9 : Int32)), .val (.ref (w 10)), .unset, .unset] [])) _
    refine Goes.by (fun _ k => XS.iloadN X59.here hx rfl (hb hby at_17) rfl (XS.iconst X59.here hx rfl (hb hby at_18) (XS.icmpNo X59.here hx rfl (hb hby at_19) rfl (feq (by decide : ¬ ((9 : Int32) = (3 : Int32)))).1 k))) ?_
    show Goes p e below (T59.setTop (mkF m 22 #[.val (.int p1), .val (.int (9 : Int32)), .val (.ref (w 10)), .unset, .unset] [])) _
    refine Goes.by (fun _ k => XS.iloadN X59.here hx rfl (hb hby at_22) rfl (XS.bipush X59.here hx rfl (hb hby at_23) (XS.icmpNo X59.here hx rfl (hb hby at_25) rfl (feq (by decide : ¬ ((9 : Int32) = (6 : Int32)))).1 k))) ?_
    show Goes p e below (T59.setTop (mkF m 28 #[.val (.int p1), .val (.int (9 : Int32)), .val (.ref (w 10)), .unset, .unset] [])) _
    refine Goes.by (fun _ k => XS.iloadN X59.here hx rfl (hb hby at_28) rfl (XS.bipush X59.here hx rfl (hb hby at_29) (XS.icmpYes X59.here hx rfl (pc0 := 31) (pc' := 38) rfl (hb hby at_31) rfl (feq (by decide : ¬ ((9 : Int32) = (7 : Int32)))).2 (by decide) (by decide) k))) ?_
    show Goes p e below (T59.setTop (mkF m 38 #[.val (.int p1), .val (.int (9 : Int32)), .val (.ref (w 10)), .unset, .unset] [])) _
    refine Goes.by (fun _ k => XS.iconst X59.here hx rfl (hb hby at_38) (XS.istoreN X59.here hx rfl (hb hby at_39) rfl (l' := #[.val (.int p1), .val (.int (9 : Int32)), .val (.ref (w 10)), .val (.int (0 : Int32)), .unset]) rfl (XS.aloadN X59.here hx rfl (hb hby at_40) rfl rfl k))) ?_
    obtain ⟨cq62, kq62, q62a, q62b, q62c⟩ := isOf hZ e59 P.2.2.2.2.2.2.2.2.2.2.2.2.2.2.2.2.2.2.2.2.2.1
    obtain ⟨_, _, ⟨T62, L62, k62, n62⟩, -, X62, ⟨Lc62, hQ62, l62, y62, z62⟩, st62⟩ := X59.virtualBack hx (y := (⟨"com/example/knot3/knot3/definition/Attribute", "inherited", "()Z"⟩ : MethodName)) (z := (⟨"com/example/knot3/knot3/definition/Attribute", "inherited", "()Z"⟩ : MethodName)) hown (mvT hZ (hw _ (List.mem_of_getElem? (i := 8) rfl))) (mvT hZ (hw _ (List.mem_of_getElem? (i := 9) rfl))) (notFace_of_selects (args := #[]) (mvT hZ (hw _ (List.mem_of_getElem? (i := 11) rfl)))) (mvT hZ (hw _ (List.mem_of_getElem? (i := 11) rfl))) (mvT hZ (hw _ (List.mem_of_getElem? (i := 10) rfl))) (by decide) (backOf (W := 0) (r2_23 l Z a0 hw [] h0 n0 Z0 w P) hZ (hw _ (List.mem_of_getElem? (i := 12) rfl)) (hw _ (List.mem_of_getElem? (i := 6) rfl)) (by decide) (by decide)) q62a q62c (g := (mkF m 41 #[.val (.int p1), .val (.int (9 : Int32)), .val (.ref (w 10)), .val (.int (0 : Int32)), .unset] [(.ref (w 10))])) rfl (by rw [hml]; rfl) (Steps.refl _) (argsL := []) (rest := []) (lenOf pd1 rfl) rfl (by show 2 * 0 + _ ≤ _; exact Nat.le_of_eq rfl) (hb hby at_41) (fun _ _ => ⟨rfl, e59, (by decide : 0 + 0 ≤ _), (by decide : 0 + 0 ≤ _)⟩)
    dsimp only [Pt.U, Pt.locs, Pt.cells, Pt.slots] at X62 l62 y62 z62 st62 hQ62
    subst l62 y62 z62
    obtain ⟨rfl, Nq62, e62⟩ := hQ62
    have N62 := Fr.app N59 Nq62
    refine Goes.tr st62 ?_
    refine Goes.by (fun _ k => XS.istore X62.here hx rfl (hb hby at_44) rfl (l' := #[.val (.int p1), .val (.int (9 : Int32)), .val (.ref (w 10)), .val (.int (0 : Int32)), .val (.int (0 : Int32))]) rfl (XS.iload X62.here hx rfl (hb hby at_46) rfl (XS.ifYes X62.here hx rfl (pc0 := 48) (pc' := 60) rfl (hb hby at_48) rfl ((if0 _ _).trans (teq (by decide : (0 : Int32) = (0 : Int32))).1) (by decide) (by decide) k))) ?_
    show Goes p e below (T62.setTop (mkF m 60 #[.val (.int p1), .val (.int (9 : Int32)), .val (.ref (w 10)), .val (.int (0 : Int32)), .val (.int (0 : Int32))] [])) _
    refine Goes.by (fun _ k => XS.iload X62.here hx rfl (hb hby at_60) rfl (XS.iloadN X62.here hx rfl (hb hby at_62) rfl (XS.icmpNo X62.here hx rfl (hb hby at_63) rfl (teq (by decide : (0 : Int32) = (0 : Int32))).2 k))) ?_
    show Goes p e below (T62.setTop (mkF m 66 #[.val (.int p1), .val (.int (9 : Int32)), .val (.ref (w 10)), .val (.int (0 : Int32)), .val (.int (0 : Int32))] [])) _
    refine Goes.by (fun _ k => XS.iconst X62.here hx rfl (hb hby at_66) (XS.goto X62.here hx rfl (pc0 := 67) (pc' := 71) rfl (hb hby at_67) (by decide) (by decide) k)) ?_
    show Goes p e below (T62.setTop (mkF m 71 #[.val (.int p1), .val (.int (9 : Int32)), .val (.ref (w 10)), .val (.int (0 : Int32)), .val (.int (0 : Int32))] [(.int (1 : Int32))])) _
    obtain ⟨fs, hr, hrun, hended, hW, hsame⟩ := X62.leave (v := some (.int (1 : Int32))) (fun h => by rw [Bd.returns] at h; cases h)
    exact ⟨_, _, retN X62 hx (t := .boolean) Bd.returns (by simp) (hb hby at_71) hr, hrun, hended, _, _, rfl, ⟨rfl, N62⟩, ⟨_, rfl⟩, hW, hsame.mono (by decide) (by decide)⟩
set_option maxRecDepth 65536 in
set_option maxHeartbeats 40000000 in
theorem comes_1 {Post : Tables → Env → Array Value → State → Outcome → State → Prop} (hpost : ∀ tb e args s v u, (limb_1_1.after args s (.returned v) u = true ∧ limb_1_2.after args s (.returned v) u = true ∧ True) → FrameEnd s (.returned v) u (Jvm.fieldLocs frame_1_writes args s ++ Jvm.arrayLocs frame_1_arrays args s ++ Jvm.staticLocs frame_1_statics s) 0 0 → Post tb e args s (.returned v) u) :
    ArmFor flags0 classFile x code maxLocals ret World_1 tables_1 room_1 Calls_1 rest_1 Pre_1 Post := by
  intro l hfl _ _ p e ha hc hk s m args below hf hA hF happ hP
  obtain ⟨hcalls, hrest, hpre⟩ := hP
  obtain ⟨-, -, -, hnamed, -, -, -, hat⟩ := (Spec.applies_iff hf).mp happ
  obtain ⟨hg, hn⟩ := and_e (Cond.before_iff.mp (show (Jvm.Cond.and given_1 narrow_1).before args s = true from hpre))
  obtain ⟨a1, b1⟩ := and_e hg
  obtain ⟨w0, rfl⟩ : ∃ w0 : Value, args = #[w0] := by
    have hs : args.size = 1 := by simpa [Cond.value, given_1] using a1
    obtain ⟨L⟩ := args
    match L, hs with
    | [w0], _ => exact ⟨w0, rfl⟩
  have hw := fun d (hd : d ∈ tables_1) => atoms_spec (ws := Jvm.Cond.code x code maxLocals ret :: tables_1) hat d (List.mem_cons_of_mem _ hd)
  obtain ⟨i0, ei0⟩ := is_v b1
  obtain rfl : w0 = (.int i0) := Option.some.inj ei0
  obtain ⟨q0, t0⟩ := and_e hn
  obtain ⟨q1, t1⟩ := and_e t0
  obtain ⟨q2, t2⟩ := and_e t1
  obtain ⟨q3, t3⟩ := and_e t2
  obtain ⟨q4, t4⟩ := and_e t3
  obtain ⟨q5, t5⟩ := and_e t4
  obtain ⟨q6, t6⟩ := and_e t5
  obtain ⟨q7, t7⟩ := and_e t6
  obtain ⟨q8, t8⟩ := and_e t7
  obtain ⟨q9, t9⟩ := and_e t8
  obtain ⟨q10, t10⟩ := and_e t9
  obtain ⟨q11, t11⟩ := and_e t10
  obtain ⟨q12, t12⟩ := and_e t11
  obtain ⟨q13, t13⟩ := and_e t12
  obtain ⟨q14, t14⟩ := and_e t13
  obtain ⟨q15, t15⟩ := and_e t14
  obtain ⟨q16, t16⟩ := and_e t15
  obtain ⟨q17, t17⟩ := and_e t16
  obtain ⟨q18, t18⟩ := and_e t17
  obtain ⟨q19, t19⟩ := and_e t18
  obtain ⟨q20, t20⟩ := and_e t19
  obtain ⟨q21, t21⟩ := and_e t20
  obtain ⟨q22, t22⟩ := and_e t21
  obtain ⟨q23, t23⟩ := and_e t22
  obtain ⟨q24, t24⟩ := and_e t23
  have q25 := t24
  obtain ⟨v0, ev0⟩ := exa_v q0
  have S0 := Sta.start ev0 (Or.inr ⟨(hw _ (List.mem_of_getElem? (i := 6) rfl)), (hw _ (List.mem_of_getElem? (i := 7) rfl))⟩)
  have E0 := Exa.start ev0 q0
  obtain ⟨v1, ev1⟩ := exa_v q1
  have S1 := Sta.start ev1 (Or.inr ⟨(hw _ (List.mem_of_getElem? (i := 15) rfl)), (hw _ (List.mem_of_getElem? (i := 16) rfl))⟩)
  have E1 := Exa.start ev1 q1
  obtain ⟨v2, ev2⟩ := exa_v q3
  have S2 := Sta.start ev2 (Or.inr ⟨(hw _ (List.mem_of_getElem? (i := 15) rfl)), (hw _ (List.mem_of_getElem? (i := 24) rfl))⟩)
  have E2 := Exa.start ev2 q3
  obtain ⟨v3, ev3⟩ := exa_v q6
  have S3 := Sta.start ev3 (Or.inr ⟨(hw _ (List.mem_of_getElem? (i := 6) rfl)), (hw _ (List.mem_of_getElem? (i := 26) rfl))⟩)
  have E3 := Exa.start ev3 q6
  obtain ⟨v4, ev4⟩ := exa_v q8
  have S4 := Sta.start ev4 (Or.inr ⟨(hw _ (List.mem_of_getElem? (i := 6) rfl)), (hw _ (List.mem_of_getElem? (i := 28) rfl))⟩)
  have E4 := Exa.start ev4 q8
  obtain ⟨v5, ev5⟩ := exa_v q9
  have S5 := Sta.start ev5 (Or.inr ⟨(hw _ (List.mem_of_getElem? (i := 15) rfl)), (hw _ (List.mem_of_getElem? (i := 29) rfl))⟩)
  have E5 := Exa.start ev5 q9
  obtain ⟨v6, ev6⟩ := exa_v q12
  have S6 := Sta.start ev6 (Or.inr ⟨(hw _ (List.mem_of_getElem? (i := 6) rfl)), (hw _ (List.mem_of_getElem? (i := 31) rfl))⟩)
  have E6 := Exa.start ev6 q12
  obtain ⟨v7, ev7⟩ := exa_v q14
  have S7 := Sta.start ev7 (Or.inr ⟨(hw _ (List.mem_of_getElem? (i := 6) rfl)), (hw _ (List.mem_of_getElem? (i := 33) rfl))⟩)
  have E7 := Exa.start ev7 q14
  obtain ⟨v8, ev8⟩ := exa_v q16
  have S8 := Sta.start ev8 (Or.inr ⟨(hw _ (List.mem_of_getElem? (i := 6) rfl)), (hw _ (List.mem_of_getElem? (i := 35) rfl))⟩)
  have E8 := Exa.start ev8 q16
  obtain ⟨v9, ev9⟩ := exa_v q18
  have S9 := Sta.start ev9 (Or.inr ⟨(hw _ (List.mem_of_getElem? (i := 6) rfl)), (hw _ (List.mem_of_getElem? (i := 37) rfl))⟩)
  have E9 := Exa.start ev9 q18
  obtain ⟨v10, ev10⟩ := exa_v q20
  have S10 := Sta.start ev10 (Or.inr ⟨(hw _ (List.mem_of_getElem? (i := 6) rfl)), (hw _ (List.mem_of_getElem? (i := 39) rfl))⟩)
  have E10 := Exa.start ev10 q20
  obtain ⟨v11, ev11⟩ := exa_v q22
  have S11 := Sta.start ev11 (Or.inr ⟨(hw _ (List.mem_of_getElem? (i := 6) rfl)), (hw _ (List.mem_of_getElem? (i := 41) rfl))⟩)
  have E11 := Exa.start ev11 q22
  obtain ⟨v12, ev12⟩ := exa_v q24
  have S12 := Sta.start ev12 (Or.inr ⟨(hw _ (List.mem_of_getElem? (i := 6) rfl)), (hw _ (List.mem_of_getElem? (i := 43) rfl))⟩)
  have E12 := Exa.start ev12 q24
  have F2 := own_fldR ev0 ev1 q2
  have F4 := own_fldI ev1 q4
  have F5 := own_fldI ev2 q5
  have F7 := own_fldR ev3 ev1 q7
  have F10 := own_fldR ev4 ev5 q10
  have F11 := own_fldI ev5 q11
  have F13 := own_fldR ev6 ev5 q13
  have F15 := own_fldR ev7 ev1 q15
  have F17 := own_fldR ev8 ev5 q17
  have F19 := own_fldR ev9 ev2 q19
  have F21 := own_fldR ev10 ev2 q21
  have F23 := own_fldR ev11 ev5 q23
  have F25 := own_fldR ev12 ev1 q25
  have P : Pins s s.heap (fun i => [v0, v1, v2, v3, v4, v5, v6, v7, v8, v9, v10, v11, v12].getD i 0) := ⟨S0, E0, S1, E1, S2, E2, S3, E3, S4, E4, S5, E5, S6, E6, S7, E7, S8, E8, S9, E9, S10, E10, S11, E11, S12, E12, F2, F4, F5, F7, F10, F11, F13, F15, F17, F19, F21, F23, F25⟩
  obtain ⟨n, o, h1, h2, h3, _, L, rfl, ⟨rfl, N⟩, hq⟩ := rm0 l s _ hw tables_1 s.heap s.heap.size (Nat.le_refl _) i0 (fun i => [v0, v1, v2, v3, v4, v5, v6, v7, v8, v9, v10, v11, v12].getD i 0) P p e ha hc hk s m _ below hf ((Spec.applies_iff_loose hf).mp happ).1 ⟨rfl, State.Warmed39.refl s, rfl⟩ trivial
  refine ⟨n, _, h1, h2, h3, hpost _ _ _ _ _ _ ⟨Cond.after_iff.mpr rfl, Cond.after_iff.mpr (eq_i res_at (Term.int_eval (1)) rfl), trivial⟩ ⟨hq.1, hq.2.1, (hq.2.2.sift fun y hy => Or.inr (N y hy)).mono (by decide) (by decide)⟩⟩
theorem main_1_1 : Claimed_1_1 := comes_1 fun _ _ _ _ _ _ h hF => ⟨h.1, hF⟩
theorem main_1_2 : Claimed_1_2 := comes_1 fun _ _ _ _ _ _ h hF => ⟨h.2.1, hF⟩
end Jvm.Pilot.@@N@@
namespace Jvm.Pilot.@@N@@
open Jvm Jvm.ClassFile Sem Op Lib Jvm.Free Jvm.Stand Jvm.Pilot.@@N@@.Jvm.D
/-! MADE BY PROGRAM (witnessworld.py) out of the Statement's table words and the real class files: 13 classes; the members and pool entries that the words name. The judged class is class 1, her method 2. -/
namespace start1
open Jvm.ClassFile
def u (s : String) : CpInfo := .utf8 (stringToUtf16 s)
/-- a pool by its gaps: so many unusable entries, then the entry; so many at the end -/
def gap : Nat → List CpInfo → List CpInfo
  | 0, r => r
  | n + 1, r => .unusable :: gap n r
def poolList (es : List (Nat × CpInfo)) (last : Nat) : List CpInfo := es.foldr (fun e r => gap e.1 (e.2 :: r)) (gap last [])
def pool (es : List (Nat × CpInfo)) (last : Nat) : Array CpInfo := ⟨poolList es last⟩
def fileOf (pool : Array CpInfo) (this : Nat) (attrs : Array Attribute := #[]) (ms : Array MethodInfo := #[]) (fl : Nat := 33) (sup : Nat := 0) (ifs : Array Nat := #[]) (fds : Array FieldInfo := #[]) : ClassFile where
  minorVersion := 0
  majorVersion := 65
  constantPool := pool
  accessFlags := fl
  thisClass := this
  superClass := sup
  interfaces := ifs
  fields := fds
  methods := ms
  attributes := attrs
def plain (name : String) (sup : Option ClassId) : Class where
  name := name
  kind := .ordinary
  loader := none
  accessFlags := 33
  super := sup
  interfaces := #[]
  cf := none
  fields := #[]
  methods := #[]
  instanceTypes := #[]
  staticTypes := #[]
  resolved := #[]
  callSites := []
  init := .initialized
  statics := none
  mirror := none

def pool0 : Array CpInfo := pool [(5, u "<init>"), (0, u "()V"), (1, .class_ 10), (1, u "java/lang/Object")] 113

def k0m0 : Method := { name := "<init>", desc := "()V", sig := { parameters := [], returnType := none }, accessFlags := 1, code := none }
/-- java/lang/Object -/
def k0 : Class := { plain "java/lang/Object" none with
  accessFlags := 33
  interfaces := #[]
  cf := some (fileOf pool0 8 #[] #[{ accessFlags := 1, nameIndex := 5, descriptorIndex := 6, attributes := #[] }] 33 0 #[] #[])
  fields := #[]
  methods := #[k0m0]
  instanceTypes := #[]
  staticTypes := #[]
  resolved := Array.replicate 124 none
  statics := none }

def pool1 : Array CpInfo := pool [(2, .class_ 4), (1, u "java/lang/Object"), (0, u "<init>"), (0, u "()V"), (0, .fieldref 8 9), (0, .class_ 10), (0, .nameAndType 11 12), (0, u "com/example/knot3/knot3/definition/Attribute"), (0, u "CLASS"), (0, u "Lcom/example/knot3/knot3/definition/Attribute;"), (0, .fieldref 8 14), (0, .nameAndType 15 12), (0, u "PARENT"), (0, .fieldref 8 17), (0, .nameAndType 18 12), (0, u "ABSTRACT"), (0, .fieldref 8 20), (0, .nameAndType 21 12), (0, u "SCOPE"), (0, .fieldref 8 23), (0, .nameAndType 24 12), (0, u "LAZY_INIT"), (0, .fieldref 8 26), (0, .nameAndType 27 12), (0, u "DEPENDS_ON"), (0, .fieldref 8 29), (0, .nameAndType 30 12), (0, u "INIT_METHOD"), (0, .fieldref 8 32), (0, .nameAndType 33 12), (0, u "DESTROY_METHOD"), (0, .fieldref 8 35), (0, .nameAndType 36 12), (0, u "DEFAULT_INIT_METHOD"), (0, .fieldref 8 38), (0, .nameAndType 39 12), (0, u "DEFAULT_DESTROY_METHOD"), (0, .integer 2147483647), (0, .methodref 42 43), (0, .class_ 44), (0, .nameAndType 45 46), (0, u "com/example/knot3/knot3/definition/AttributeInheritedPinLaw"), (0, u "pick"), (0, u "(I)Lcom/example/knot3/knot3/definition/Attribute;"), (0, .methodref 8 48), (0, .nameAndType 49 50), (0, u "inherited"), (0, u "()Z"), (0, .methodref 8 52), (0, .nameAndType 53 50), (0, u "fileWide"), (3, u "law"), (0, u "(I)Z")] 2

def k1m0 : Method := { name := "<init>", desc := "()V", sig := { parameters := [], returnType := none }, accessFlags := 1, code := none }
def k1c1 : Code := { maxStack := 2, maxLocals := 1, code := method_2_code, exceptionTable := #[], attributes := #[] }
def k1m1 : Method := { name := "pick", desc := "(I)Lcom/example/knot3/knot3/definition/Attribute;", sig := { parameters := [.int], returnType := some (.object "com/example/knot3/knot3/definition/Attribute") }, accessFlags := 10, code := some k1c1 }
def k1c2 : Code := { maxStack := 2, maxLocals := 5, code := code, exceptionTable := #[], attributes := #[] }
def k1m2 : Method := { name := "law", desc := "(I)Z", sig := { parameters := [.int], returnType := some .boolean }, accessFlags := 9, code := some k1c2 }
/-- com/example/knot3/knot3/definition/AttributeInheritedPinLaw -/
def k1 : Class := { plain "com/example/knot3/knot3/definition/AttributeInheritedPinLaw" (some 0) with
  accessFlags := 49
  interfaces := #[]
  cf := some (fileOf pool1 42 #[] #[{ accessFlags := 1, nameIndex := 5, descriptorIndex := 6, attributes := #[] }, { accessFlags := 10, nameIndex := 45, descriptorIndex := 46, attributes := #[] }, { accessFlags := 9, nameIndex := 57, descriptorIndex := 58, attributes := #[] }] 49 2 #[] #[])
  fields := #[]
  methods := #[k1m0, k1m1, k1m2]
  instanceTypes := #[]
  staticTypes := #[]
  resolved := Array.replicate 61 none
  statics := none }

def pool2 : Array CpInfo := pool [(1, .class_ 2), (0, u "java/lang/constant/Constable"), (0, .class_ 4), (0, u "java/lang/Object")] 6

/-- java/lang/constant/Constable -/
def k2 : Class := { plain "java/lang/constant/Constable" (some 0) with
  accessFlags := 1537
  interfaces := #[]
  cf := some (fileOf pool2 1 #[] #[] 1537 3 #[] #[])
  fields := #[]
  methods := #[]
  instanceTypes := #[]
  staticTypes := #[]
  resolved := Array.replicate 11 none
  statics := none }

def pool3 : Array CpInfo := pool [(1, .class_ 2), (0, u "java/lang/Comparable"), (0, .class_ 4), (0, u "java/lang/Object")] 7

/-- java/lang/Comparable -/
def k3 : Class := { plain "java/lang/Comparable" (some 0) with
  accessFlags := 1537
  interfaces := #[]
  cf := some (fileOf pool3 1 #[] #[] 1537 3 #[] #[])
  fields := #[]
  methods := #[]
  instanceTypes := #[]
  staticTypes := #[]
  resolved := Array.replicate 12 none
  statics := none }

def pool4 : Array CpInfo := pool [(1, .class_ 2), (0, u "java/io/Serializable"), (0, .class_ 4), (0, u "java/lang/Object")] 2

/-- java/io/Serializable -/
def k4 : Class := { plain "java/io/Serializable" (some 0) with
  accessFlags := 1537
  interfaces := #[]
  cf := some (fileOf pool4 1 #[] #[] 1537 3 #[] #[])
  fields := #[]
  methods := #[]
  instanceTypes := #[]
  staticTypes := #[]
  resolved := Array.replicate 7 none
  statics := none }

def pool5 : Array CpInfo := pool [(2, .class_ 4), (1, u "java/lang/Enum"), (0, u "name"), (0, u "Ljava/lang/String;"), (2, u "ordinal"), (0, u "I"), (1, .class_ 14), (1, u "java/lang/Object"), (4, u "hash"), (86, .class_ 108), (1, u "java/lang/Enum$EnumDesc"), (2, .class_ 112), (0, u "java/lang/constant/Constable"), (0, .class_ 114), (0, u "java/lang/Comparable"), (0, .class_ 116), (0, u "java/io/Serializable")] 87

/-- java/lang/Enum -/
def k5 : Class := { plain "java/lang/Enum" (some 0) with
  accessFlags := 1057
  interfaces := #[2, 3, 4]
  cf := some (fileOf pool5 2 #[.nestMembers #[106]] #[] 1057 12 #[111, 113, 115] #[{ accessFlags := 18, nameIndex := 5, descriptorIndex := 6, attributes := #[] }, { accessFlags := 18, nameIndex := 9, descriptorIndex := 10, attributes := #[] }, { accessFlags := 2, nameIndex := 19, descriptorIndex := 10, attributes := #[] }])
  fields := #[{ name := "name", type := (.object "java/lang/String"), accessFlags := 18, slot := 0, constantValue := 0 }, { name := "ordinal", type := .int, accessFlags := 18, slot := 1, constantValue := 0 }, { name := "hash", type := .int, accessFlags := 2, slot := 2, constantValue := 0 }]
  methods := #[]
  instanceTypes := #[(.object "java/lang/String"), .int, .int]
  staticTypes := #[]
  resolved := Array.replicate 204 none
  statics := none }

def pool6 : Array CpInfo := pool [(1, .class_ 2), (0, u "com/example/knot3/knot3/definition/Attribute"), (2, u "CLASS"), (0, u "Lcom/example/knot3/knot3/definition/Attribute;"), (2, u "PARENT"), (2, u "ABSTRACT"), (2, u "SCOPE"), (2, u "LAZY_INIT"), (2, u "DEPENDS_ON"), (2, u "INIT_METHOD"), (2, u "DESTROY_METHOD"), (2, u "DEFAULT_INIT_METHOD"), (2, u "DEFAULT_DESTROY_METHOD"), (2, u "$VALUES"), (0, u "[Lcom/example/knot3/knot3/definition/Attribute;"), (6, .class_ 46), (1, u "java/lang/Enum"), (8, u "xmlName"), (0, u "Ljava/lang/String;"), (0, .fieldref 1 58), (0, .nameAndType 59 60), (0, u "kind"), (0, u "Lcom/example/knot3/knot3/definition/Attribute$Kind;"), (0, .fieldref 62 63), (0, .class_ 64), (0, .nameAndType 65 60), (0, u "com/example/knot3/knot3/definition/Attribute$Kind"), (0, u "FILE_WIDE"), (0, .fieldref 62 67), (0, .nameAndType 68 60), (0, u "INHERITED"), (48, u "fileWide"), (0, u "()Z"), (1, u "inherited")] 8

def k6c0 : Code := { maxStack := 2, maxLocals := 1, code := prog_25_method_5_code, exceptionTable := #[], attributes := #[] }
def k6m0 : Method := { name := "fileWide", desc := "()Z", sig := { parameters := [], returnType := some .boolean }, accessFlags := 1, code := some k6c0 }
def k6c1 : Code := { maxStack := 2, maxLocals := 1, code := prog_25_method_6_code, exceptionTable := #[], attributes := #[] }
def k6m1 : Method := { name := "inherited", desc := "()Z", sig := { parameters := [], returnType := some .boolean }, accessFlags := 1, code := some k6c1 }
/-- com/example/knot3/knot3/definition/Attribute -/
def k6 : Class := { plain "com/example/knot3/knot3/definition/Attribute" (some 5) with
  accessFlags := 16433
  interfaces := #[]
  cf := some (fileOf pool6 1 #[.nestMembers #[62]] #[{ accessFlags := 1, nameIndex := 117, descriptorIndex := 118, attributes := #[] }, { accessFlags := 1, nameIndex := 120, descriptorIndex := 118, attributes := #[] }] 16433 44 #[] #[{ accessFlags := 16409, nameIndex := 5, descriptorIndex := 6, attributes := #[] }, { accessFlags := 16409, nameIndex := 9, descriptorIndex := 6, attributes := #[] }, { accessFlags := 16409, nameIndex := 12, descriptorIndex := 6, attributes := #[] }, { accessFlags := 16409, nameIndex := 15, descriptorIndex := 6, attributes := #[] }, { accessFlags := 16409, nameIndex := 18, descriptorIndex := 6, attributes := #[] }, { accessFlags := 16409, nameIndex := 21, descriptorIndex := 6, attributes := #[] }, { accessFlags := 16409, nameIndex := 24, descriptorIndex := 6, attributes := #[] }, { accessFlags := 16409, nameIndex := 27, descriptorIndex := 6, attributes := #[] }, { accessFlags := 16409, nameIndex := 30, descriptorIndex := 6, attributes := #[] }, { accessFlags := 16409, nameIndex := 33, descriptorIndex := 6, attributes := #[] }, { accessFlags := 18, nameIndex := 55, descriptorIndex := 56, attributes := #[] }, { accessFlags := 18, nameIndex := 59, descriptorIndex := 60, attributes := #[] }, { accessFlags := 4122, nameIndex := 36, descriptorIndex := 37, attributes := #[] }])
  fields := #[{ name := "CLASS", type := (.object "com/example/knot3/knot3/definition/Attribute"), accessFlags := 16409, slot := 0, constantValue := 0 }, { name := "PARENT", type := (.object "com/example/knot3/knot3/definition/Attribute"), accessFlags := 16409, slot := 1, constantValue := 0 }, { name := "ABSTRACT", type := (.object "com/example/knot3/knot3/definition/Attribute"), accessFlags := 16409, slot := 2, constantValue := 0 }, { name := "SCOPE", type := (.object "com/example/knot3/knot3/definition/Attribute"), accessFlags := 16409, slot := 3, constantValue := 0 }, { name := "LAZY_INIT", type := (.object "com/example/knot3/knot3/definition/Attribute"), accessFlags := 16409, slot := 4, constantValue := 0 }, { name := "DEPENDS_ON", type := (.object "com/example/knot3/knot3/definition/Attribute"), accessFlags := 16409, slot := 5, constantValue := 0 }, { name := "INIT_METHOD", type := (.object "com/example/knot3/knot3/definition/Attribute"), accessFlags := 16409, slot := 6, constantValue := 0 }, { name := "DESTROY_METHOD", type := (.object "com/example/knot3/knot3/definition/Attribute"), accessFlags := 16409, slot := 7, constantValue := 0 }, { name := "DEFAULT_INIT_METHOD", type := (.object "com/example/knot3/knot3/definition/Attribute"), accessFlags := 16409, slot := 8, constantValue := 0 }, { name := "DEFAULT_DESTROY_METHOD", type := (.object "com/example/knot3/knot3/definition/Attribute"), accessFlags := 16409, slot := 9, constantValue := 0 }, { name := "xmlName", type := (.object "java/lang/String"), accessFlags := 18, slot := 3, constantValue := 0 }, { name := "kind", type := (.object "com/example/knot3/knot3/definition/Attribute$Kind"), accessFlags := 18, slot := 4, constantValue := 0 }, { name := "$VALUES", type := (.array (.object "com/example/knot3/knot3/definition/Attribute")), accessFlags := 4122, slot := 10, constantValue := 0 }]
  methods := #[k6m0, k6m1]
  instanceTypes := #[(.object "java/lang/String"), .int, .int, (.object "java/lang/String"), (.object "com/example/knot3/knot3/definition/Attribute$Kind")]
  staticTypes := #[(.object "com/example/knot3/knot3/definition/Attribute"), (.object "com/example/knot3/knot3/definition/Attribute"), (.object "com/example/knot3/knot3/definition/Attribute"), (.object "com/example/knot3/knot3/definition/Attribute"), (.object "com/example/knot3/knot3/definition/Attribute"), (.object "com/example/knot3/knot3/definition/Attribute"), (.object "com/example/knot3/knot3/definition/Attribute"), (.object "com/example/knot3/knot3/definition/Attribute"), (.object "com/example/knot3/knot3/definition/Attribute"), (.object "com/example/knot3/knot3/definition/Attribute"), (.array (.object "com/example/knot3/knot3/definition/Attribute"))]
  resolved := Array.replicate 129 none
  statics := some 0 }

def pool7 : Array CpInfo := pool [(1, .class_ 2), (0, u "com/example/knot3/knot3/definition/Attribute$Kind"), (2, u "OWN"), (0, u "Lcom/example/knot3/knot3/definition/Attribute$Kind;"), (2, u "INHERITED"), (2, u "FILE_WIDE"), (2, u "$VALUES"), (0, u "[Lcom/example/knot3/knot3/definition/Attribute$Kind;"), (6, .class_ 25), (1, u "java/lang/Enum"), (26, .class_ 53), (0, u "com/example/knot3/knot3/definition/Attribute")] 2

/-- com/example/knot3/knot3/definition/Attribute$Kind -/
def k7 : Class := { plain "com/example/knot3/knot3/definition/Attribute$Kind" (some 5) with
  accessFlags := 16432
  interfaces := #[]
  cf := some (fileOf pool7 1 #[.nestHost 52] #[] 16432 23 #[] #[{ accessFlags := 16409, nameIndex := 5, descriptorIndex := 6, attributes := #[] }, { accessFlags := 16409, nameIndex := 9, descriptorIndex := 6, attributes := #[] }, { accessFlags := 16409, nameIndex := 12, descriptorIndex := 6, attributes := #[] }, { accessFlags := 4122, nameIndex := 15, descriptorIndex := 16, attributes := #[] }])
  fields := #[{ name := "OWN", type := (.object "com/example/knot3/knot3/definition/Attribute$Kind"), accessFlags := 16409, slot := 0, constantValue := 0 }, { name := "INHERITED", type := (.object "com/example/knot3/knot3/definition/Attribute$Kind"), accessFlags := 16409, slot := 1, constantValue := 0 }, { name := "FILE_WIDE", type := (.object "com/example/knot3/knot3/definition/Attribute$Kind"), accessFlags := 16409, slot := 2, constantValue := 0 }, { name := "$VALUES", type := (.array (.object "com/example/knot3/knot3/definition/Attribute$Kind")), accessFlags := 4122, slot := 3, constantValue := 0 }]
  methods := #[]
  instanceTypes := #[(.object "java/lang/String"), .int, .int]
  staticTypes := #[(.object "com/example/knot3/knot3/definition/Attribute$Kind"), (.object "com/example/knot3/knot3/definition/Attribute$Kind"), (.object "com/example/knot3/knot3/definition/Attribute$Kind"), (.array (.object "com/example/knot3/knot3/definition/Attribute$Kind"))]
  resolved := Array.replicate 56 none
  statics := some 1 }

def pool8 : Array CpInfo := pool [(1, u "java/lang/Cloneable"), (0, .class_ 1), (0, u "java/lang/Object"), (0, .class_ 3)] 3

/-- java/lang/Cloneable -/
def k8 : Class := { plain "java/lang/Cloneable" (some 0) with
  accessFlags := 1537
  interfaces := #[]
  cf := some (fileOf pool8 2 #[] #[] 1537 4 #[] #[])
  fields := #[]
  methods := #[]
  instanceTypes := #[]
  staticTypes := #[]
  resolved := Array.replicate 8 none
  statics := none }

/-- the primitive byte -/
def k9 : Class := { plain "byte" none with kind := .primitive 'B', accessFlags := 0x411 }
/-- [B -/
def k10 : Class := { plain "[B" (some 0) with kind := .array 9 .byte, interfaces := #[8, 4], accessFlags := 1041 }

/-- the primitive int -/
def k11 : Class := { plain "int" none with kind := .primitive 'I', accessFlags := 0x411 }
/-- [I -/
def k12 : Class := { plain "[I" (some 0) with kind := .array 11 .int, interfaces := #[8, 4], accessFlags := 1041 }

def heap : Heap := #[{ cls := 6, slots := #[.ref 2, .ref 6, .ref 10, .ref 5, .ref 8, .ref 13, .ref 14, .ref 9, .ref 11, .ref 12, .null], vm := .statics 6 },
  { cls := 7, slots := #[.ref 7, .ref 3, .ref 4, .null], vm := .statics 7 },
  { cls := 6, slots := #[.null, .int 0, .int 0, .null, .ref 3], vm := .none },
  { cls := 7, slots := #[.null, .int 1, .int 0], vm := .none },
  { cls := 7, slots := #[.null, .int 2, .int 0], vm := .none },
  { cls := 6, slots := #[.null, .int 0, .int 0, .null, .ref 3], vm := .none },
  { cls := 6, slots := #[.null, .int 0, .int 0, .null, .ref 7], vm := .none },
  { cls := 7, slots := #[.null, .int 0, .int 0], vm := .none },
  { cls := 6, slots := #[.null, .int 0, .int 0, .null, .ref 7], vm := .none },
  { cls := 6, slots := #[.null, .int 0, .int 0, .null, .ref 3], vm := .none },
  { cls := 6, slots := #[.null, .int 0, .int 0, .null, .ref 7], vm := .none },
  { cls := 6, slots := #[.null, .int 0, .int 0, .null, .ref 4], vm := .none },
  { cls := 6, slots := #[.null, .int 0, .int 0, .null, .ref 4], vm := .none },
  { cls := 6, slots := #[.null, .int 0, .int 0, .null, .ref 7], vm := .none },
  { cls := 6, slots := #[.null, .int 0, .int 0, .null, .ref 3], vm := .none }]
def classes : Array Class := #[k0, k1, k2, k3, k4, k5, k6, k7, k8, k9, k10, k11, k12]
def interned : List (Array UInt16 × Addr) := []
def slotsUsed : Nat := 74
def theMethod : MethodId := ⟨1, 2⟩
def args0 : Array Value := #[.int 5]
def aboutOver (below : List Frame) : State where
  vm := { classes := classes, interned := interned.toArray }
  heap := heap
  slotsUsed := slotsUsed
  threads := #[{ frames := .invoking theMethod args0 :: below }]
def below0 : List Frame := [.native { method := ⟨0, 0⟩, args := #[] }]
def about1 : State := aboutOver below0
def p0 : Program := .bare "" "" ""
def e0 : Env := launch0.env 0 0 0
theorem w_frames : about1.frames = Frame.invoking theMethod args0 :: below0 := rfl
set_option maxRecDepth 65536 in
theorem w_args : argsFit about1.vm theMethod args0 = true := by decide +kernel
set_option maxRecDepth 65536 in
theorem w_heap : heapFits about1 = true := by decide +kernel
set_option maxRecDepth 65536 in
theorem w_runnable : about1.curStatus? = some .runnable := by decide +kernel
set_option maxRecDepth 65536 in
theorem w_alone : about1.alone = true := by decide +kernel
set_option maxRecDepth 65536 in
theorem w_named : about1.methodNamed? x = some theMethod := by decide +kernel
set_option maxRecDepth 65536 in
theorem w_hears : about1.hears theMethod below0 = true := by decide +kernel
set_option maxRecDepth 65536 in
theorem w_ripe : about1.ripe theMethod args0 below0 = true := by decide +kernel
theorem w_running : about1.status = .running := rfl
set_option maxRecDepth 65536 in
theorem w_room : about1.hasRoom e0.platform room_1 = true :=
  launch0.hasRoom_least _ room_1 (by decide +kernel) (by decide +kernel) (by decide +kernel) (by decide +kernel) (by decide +kernel) (by decide +kernel)
theorem allAtoms_all (ts : List Jvm.Cond) (a : Array Jvm.Value) (st : Jvm.State) : (allAtoms ts).before a st = ts.all (fun c => c.before a st) := by
  induction ts with
  | nil => rfl
  | cons c t ih =>
    show (Jvm.Cond.and c (allAtoms t)).before a st = _
    rw [Jvm.Cond.before_and, ih, List.all_cons]
def words1 : List Jvm.Cond := Jvm.Cond.code x code maxLocals ret :: tables_1
/-- a 'code' word, met by the world's own term for the bytes: nothing is compared byte by byte -/
theorem code_word {y : MethodName} {bytes : ByteArray} {mx : Nat} {rt : Option FieldType} {a : Array Value} {s : State} {m : MethodId} {meth : Method} {c : Code} (h1 : s.methodNamed? y = some m) (h2 : s.vm.method? m = some meth) (h3 : meth.code = some c) (h4 : c.code = bytes)
    (h5 : (c.maxLocals == mx && c.exceptionTable.isEmpty && decide (c.maxStack ≤ mostOperands) && decide (meth.sig.returnType = rt) && !meth.locks && decide (parseMethodDescriptor y.desc = some meth.sig)) = true) : (Jvm.Cond.code y bytes mx rt).before a s = true := by
  simp only [Bool.and_eq_true, beq_iff_eq, Bool.not_eq_true', decide_eq_true_eq] at h5
  obtain ⟨⟨⟨⟨⟨g1, g2⟩, g3⟩, g4⟩, g5⟩, g6⟩ := h5
  simp [Cond.before, Cond.holds, Cond.value, h1, h2, h3, h4, g1, g2, g3, g4, g5, g6]
def isCode : Jvm.Cond → Bool
  | .code _ _ _ _ => true
  | _ => false
theorem all_split {L : List Jvm.Cond} {P : Jvm.Cond → Bool} (h1 : L.all (fun c => isCode c || P c) = true) (h2 : ∀ c ∈ L.filter isCode, P c = true) : L.all P = true := by
  refine List.all_eq_true.mpr fun c hc => ?_
  have h := List.all_eq_true.mp h1 c hc
  rcases Bool.eq_false_or_eq_true (isCode c) with hi | hi
  · exact h2 c (List.mem_filter.mpr ⟨hc, hi⟩)
  · simpa [hi] using h
set_option maxRecDepth 65536 in
theorem w_c0 : (Jvm.Cond.code x code maxLocals ret).before args0 about1 = true := code_word (m := ⟨1, 2⟩) (meth := k1m2) (c := k1c2) (by decide +kernel) rfl rfl rfl (by decide +kernel)
set_option maxRecDepth 65536 in
theorem w_c1 : (Jvm.Cond.code ({ cls := "com/example/knot3/knot3/definition/AttributeInheritedPinLaw", name := "pick", desc := "(I)Lcom/example/knot3/knot3/definition/Attribute;" } : Jvm.MethodName) method_2_code (1 : Nat) (Option.some (Jvm.ClassFile.FieldType.object "com/example/knot3/knot3/definition/Attribute"))).before args0 about1 = true := code_word (m := ⟨1, 1⟩) (meth := k1m1) (c := k1c1) (by decide +kernel) rfl rfl rfl (by decide +kernel)
set_option maxRecDepth 65536 in
theorem w_c2 : (Jvm.Cond.code ({ cls := "com/example/knot3/knot3/definition/Attribute", name := "inherited", desc := "()Z" } : Jvm.MethodName) prog_25_method_6_code (1 : Nat) (Option.some Jvm.ClassFile.FieldType.boolean)).before args0 about1 = true := code_word (m := ⟨6, 1⟩) (meth := k6m1) (c := k6c1) (by decide +kernel) rfl rfl rfl (by decide +kernel)
set_option maxRecDepth 65536 in
theorem w_c3 : (Jvm.Cond.code ({ cls := "com/example/knot3/knot3/definition/Attribute", name := "fileWide", desc := "()Z" } : Jvm.MethodName) prog_25_method_5_code (1 : Nat) (Option.some Jvm.ClassFile.FieldType.boolean)).before args0 about1 = true := code_word (m := ⟨6, 0⟩) (meth := k6m0) (c := k6c0) (by decide +kernel) rfl rfl rfl (by decide +kernel)
def codes1 : List Jvm.Cond := [Jvm.Cond.code x code maxLocals ret, Jvm.Cond.code ({ cls := "com/example/knot3/knot3/definition/AttributeInheritedPinLaw", name := "pick", desc := "(I)Lcom/example/knot3/knot3/definition/Attribute;" } : Jvm.MethodName) method_2_code (1 : Nat) (Option.some (Jvm.ClassFile.FieldType.object "com/example/knot3/knot3/definition/Attribute")), Jvm.Cond.code ({ cls := "com/example/knot3/knot3/definition/Attribute", name := "inherited", desc := "()Z" } : Jvm.MethodName) prog_25_method_6_code (1 : Nat) (Option.some Jvm.ClassFile.FieldType.boolean), Jvm.Cond.code ({ cls := "com/example/knot3/knot3/definition/Attribute", name := "fileWide", desc := "()Z" } : Jvm.MethodName) prog_25_method_5_code (1 : Nat) (Option.some Jvm.ClassFile.FieldType.boolean)]
set_option maxRecDepth 65536 in
theorem codes_eq : words1.filter isCode = codes1 := rfl
theorem w_codes : ∀ c ∈ words1.filter isCode, c.before args0 about1 = true := by
  rw [codes_eq]
  intro c hc
  simp only [codes1, List.mem_cons, List.not_mem_nil, or_false] at hc
  rcases hc with rfl | rfl | rfl | rfl
  · exact w_c0
  · exact w_c1
  · exact w_c2
  · exact w_c3
set_option maxRecDepth 65536 in
theorem w_t1 : (words1.take 24).all (fun c => isCode c || c.before args0 about1) = true := by decide +kernel
set_option maxRecDepth 65536 in
theorem w_t2 : (words1.drop 24).all (fun c => isCode c || c.before args0 about1) = true := by decide +kernel
theorem w_tables : (allAtoms (Jvm.Cond.code x code maxLocals ret :: tables_1)).before args0 about1 = true := by
  rw [allAtoms_all]
  show words1.all (fun c => c.before args0 about1) = true
  refine all_split ?_ w_codes
  rw [← List.take_append_drop 24 words1, List.all_append, w_t1, w_t2]
  rfl
set_option maxRecDepth 65536 in
theorem w_case : (Jvm.Cond.and given_1 narrow_1).before args0 about1 = true := by decide +kernel
theorem w_applies : (headSpec (Jvm.Cond.code x code maxLocals ret :: tables_1) room_1).applies x e0.platform about1 = true :=
  (Spec.applies_iff w_frames).mpr ⟨w_running, w_runnable, w_alone, w_named, w_hears, w_ripe, w_room, w_tables⟩
theorem atStart : AtStart classFile x code maxLocals ret World_1 tables_1 room_1 Calls_1 rest_1 Pre_1 launch0 p0 e0 about1 theMethod args0 below0 :=
  ⟨lists_1, trivial, launch0.admits_env _ _ _, launch0.least_env, fairChoices_fair.cas, fairChoices_fair.clock, w_frames, w_args, w_heap, w_applies, trivial, trivial, w_case⟩
end start1
theorem witness_1 : WitnessClaimed_1 := ⟨start1.p0, start1.e0, start1.about1, start1.theMethod, start1.args0, start1.below0, start1.atStart⟩
end Jvm.Pilot.@@N@@
