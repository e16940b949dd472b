import JvmDerived
import JvmDerived.Pilot.@@N@@Statement
import JvmDerived.Pilot.@@N@@Code
set_option linter.unusedVariables false
set_option linter.unusedSimpArgs false
@@BLOCK:NumsL.lean.txt@@
namespace Jvm.Pilot.@@N@@
open Jvm Jvm.ClassFile Sem Op Lib Jvm.Free Jvm.Stand Jvm.LawKit Jvm.RoadKit Bundle Jvm.Pilot.@@N@@.Jvm.D
/-- the run goes on from U and ends as Q says -/
def Goes (p : Program) (e : Env) (below : List Frame) (U : State) (Q : Outcome → State → Prop) : Prop := ∃ s₂ o, Steps p.tables e below U s₂ ∧ s₂.status = .running ∧ Ended s₂ below o ∧ Q o s₂
theorem Goes.by {p : Program} {e : Env} {below : List Frame} {U U' : State} {Q : Outcome → State → Prop} (h : ∀ t, Steps p.tables e below U' t → Steps p.tables e below U t) (g : Goes p e below U' Q) : Goes p e below U Q := by
  obtain ⟨s, o, h1, h2⟩ := g; exact ⟨s, o, h _ h1, h2⟩
theorem Goes.tr {p : Program} {e : Env} {below : List Frame} {U U' : State} {Q : Outcome → State → Prop} (h : Steps p.tables e below U U') (g : Goes p e below U' Q) : Goes p e below U Q := Goes.by (fun _ k => h.trans k) g
theorem Goes.join {α : Type} {p : Program} {e : Env} {below : List Frame} {U : State} {Q : Outcome → State → Prop} (P : α → Prop) (S : α → State) (k : (∀ z, P z → Goes p e below (S z) Q) → Goes p e below U Q) (j : ∀ z, P z → Goes p e below (S z) Q) : Goes p e below U Q := k j
theorem Goes.out {p : Program} {e : Env} {below : List Frame} {U : State} {Q : Outcome → State → Prop} (g : Goes p e below U Q) : ∃ s₂ o, Steps p.tables e below U s₂ ∧ s₂.status = .running ∧ Ended s₂ below o ∧ Q o s₂ := g
/-- a callee that writes nothing and returns r -/
def QP (r : Option Value) (h0 : Heap) (n0 : Nat) (v : Option Value) (h : Heap) (L : List Loc) : Prop := v = r ∧ Fr n0 L ∧ h = h0
/-- the law -/
def QL (n0 : Nat) (v : Option Value) (h : Heap) (L : List Loc) : Prop := v = some (.int 1) ∧ Fr n0 L
theorem own_lt {a b : Int64} (h : a < b) : lcmpW a b < 0 := by rw [lcW]; exact (lc_lt a b).mpr h
theorem own_nlt {a b : Int64} (h : ¬ a < b) : ¬ lcmpW a b < 0 := by rw [lcW]; exact fun q => h ((lc_lt a b).mp q)
theorem own_gt {a b : Int64} (h : b < a) : 0 < lcmpW a b := by rw [lcW]; exact (lc_gt a b).mpr h
theorem own_ngt {a b : Int64} (h : ¬ b < a) : ¬ 0 < lcmpW a b := by rw [lcW]; exact fun q => h ((lc_gt a b).mp q)
theorem own_eq {a b : Int64} (h : a = b) : lcmpW a b = 0 := by rw [lcW]; exact (lc_eq a b).mpr h
theorem own_neq {a b : Int64} (h : ¬ a = b) : ¬ lcmpW a b = 0 := by rw [lcW]; exact fun q => h ((lc_eq a b).mp q)
theorem own_staKeep {Z : State} {h h' : Heap} {C n d : String} {v : Value} {ws : List Addr} (F : Sta Z h C n d v) (K : Keep h h' ws) (q : ∀ x ∈ ws, ∃ c : Cell, h[x]? = some c ∧ c.vm.isStatics = false) : Sta Z h' C n d v := by
  obtain ⟨cf, i, k, f, st, cell, h1, h2, h3, h4, h5, h6, h7⟩ := F
  refine ⟨cf, i, k, f, st, cell, h1, h2, h3, h4, K.2.1 st cell h5 (fun hm => ?_), h6, h7⟩
  obtain ⟨c, e1, e2⟩ := q st hm
  cases e1.symm.trans h5; rw [e2] at h6; cases h6
theorem own_nsE {Z : State} {h : Heap} {a : Addr} {C : String} (F : Exa Z h a C) : ∃ c : Cell, h[a]? = some c ∧ c.vm.isStatics = false := by
  obtain ⟨c, k, h1, h2, h3, h4, h5⟩ := F; exact ⟨c, h1, h4⟩
theorem own_nsV {Z : State} {h : Heap} {a : Addr} {k : ClassId} {ty : FieldType} {n : Int32} {vs : List Value} {d : Value} (F : Arv Z h a k ty n vs d) : ∃ c : Cell, h[a]? = some c ∧ c.vm.isStatics = false := by
  obtain ⟨c, A, r⟩ := F; exact ⟨c, A.1, A.plain⟩
theorem own_fldI {s : State} {args : Array Value} {t : Term} {a : Addr} {C n d : String} {k : Int32} (ev : t.eval args s none [] s = some (.ref a)) (h : (Cond.eq (.field t C n d) (.int k)).value args s none s [] = some true) : Fld s s.heap a C n d (.int k) := by
  obtain ⟨x, y, h1, h2, k1, k2⟩ := cmp_v (Or.inl h)
  obtain rfl : y = .int k := (Option.some.inj h2).symm
  obtain ⟨z, rfl⟩ := k2
  have e1 : (Cond.eq (.field t C n d) (.int k)).value args s none s [] = some (decide (z = k)) := by simp [Cond.value, h1, h2]
  have e2 : z = k := gotT e1 h
  subst e2
  rw [fld_at ev] at h1
  exact Fld.start h1
theorem own_fldR {s : State} {args : Array Value} {t u : Term} {a b : Addr} {C n d : String} (ev : t.eval args s none [] s = some (.ref a)) (eu : u.eval args s none [] s = some (.ref b)) (h : (Cond.eq (.field t C n d) u).value args s none s [] = some true) : Fld s s.heap a C n d (.ref b) := by
  obtain ⟨x, y, h1, h2, k1, k2⟩ := cmp_v (Or.inl h)
  obtain rfl : y = .ref b := Option.some.inj (h2.symm.trans eu)
  have hx : x.isRef = true := k2.2
  have e2 : x = .ref b := gotT (eq_R h1 h2 hx rfl) h
  subst e2
  rw [fld_at ev] at h1
  exact Fld.start h1
def Pins (Z : State) (h : Heap) (w : Nat → Addr) : Prop := Sta Z h "com/example/nextkey/nextkey/lock/LockKind" "TABLE" "Lcom/example/nextkey/nextkey/lock/LockKind;" (.ref (w 0)) ∧ Exa Z h (w 0) "com/example/nextkey/nextkey/lock/LockKind" ∧ Sta Z h "com/example/nextkey/nextkey/lock/LockKind" "NEXT_KEY" "Lcom/example/nextkey/nextkey/lock/LockKind;" (.ref (w 1)) ∧ Exa Z h (w 1) "com/example/nextkey/nextkey/lock/LockKind" ∧ Sta Z h "com/example/nextkey/nextkey/lock/LockKind" "INSERT_INTENTION" "Lcom/example/nextkey/nextkey/lock/LockKind;" (.ref (w 2)) ∧ Exa Z h (w 2) "com/example/nextkey/nextkey/lock/LockKind" ∧ Sta Z h "com/example/nextkey/nextkey/lock/LockKind" "RECORD" "Lcom/example/nextkey/nextkey/lock/LockKind;" (.ref (w 3)) ∧ Exa Z h (w 3) "com/example/nextkey/nextkey/lock/LockKind" ∧ Sta Z h "com/example/nextkey/nextkey/lock/LockKind" "GAP" "Lcom/example/nextkey/nextkey/lock/LockKind;" (.ref (w 4)) ∧ Exa Z h (w 4) "com/example/nextkey/nextkey/lock/LockKind" ∧ Fld Z h (w 1) "java/lang/Enum" "ordinal" "I" (.int (3 : Int32)) ∧ Fld Z h (w 2) "java/lang/Enum" "ordinal" "I" (.int (4 : Int32)) ∧ Fld Z h (w 0) "java/lang/Enum" "ordinal" "I" (.int (0 : Int32)) ∧ Fld Z h (w 3) "java/lang/Enum" "ordinal" "I" (.int (1 : Int32)) ∧ Fld Z h (w 4) "java/lang/Enum" "ordinal" "I" (.int (2 : Int32))
theorem own_ne_1_2 {Z : State} {h : Heap} {w : Nat → Addr} (P : Pins Z h w) : w 1 ≠ w 2 := Fld.ne P.2.2.2.2.2.2.2.2.2.2.1 P.2.2.2.2.2.2.2.2.2.2.2.1 (fun q => absurd (Value.int.inj q) (by decide))
theorem own_ne_1_0 {Z : State} {h : Heap} {w : Nat → Addr} (P : Pins Z h w) : w 1 ≠ w 0 := Fld.ne P.2.2.2.2.2.2.2.2.2.2.1 P.2.2.2.2.2.2.2.2.2.2.2.2.1 (fun q => absurd (Value.int.inj q) (by decide))
theorem own_ne_1_3 {Z : State} {h : Heap} {w : Nat → Addr} (P : Pins Z h w) : w 1 ≠ w 3 := Fld.ne P.2.2.2.2.2.2.2.2.2.2.1 P.2.2.2.2.2.2.2.2.2.2.2.2.2.1 (fun q => absurd (Value.int.inj q) (by decide))
theorem own_ne_1_4 {Z : State} {h : Heap} {w : Nat → Addr} (P : Pins Z h w) : w 1 ≠ w 4 := Fld.ne P.2.2.2.2.2.2.2.2.2.2.1 P.2.2.2.2.2.2.2.2.2.2.2.2.2.2 (fun q => absurd (Value.int.inj q) (by decide))
theorem own_ne_2_0 {Z : State} {h : Heap} {w : Nat → Addr} (P : Pins Z h w) : w 2 ≠ w 0 := Fld.ne P.2.2.2.2.2.2.2.2.2.2.2.1 P.2.2.2.2.2.2.2.2.2.2.2.2.1 (fun q => absurd (Value.int.inj q) (by decide))
theorem own_ne_2_3 {Z : State} {h : Heap} {w : Nat → Addr} (P : Pins Z h w) : w 2 ≠ w 3 := Fld.ne P.2.2.2.2.2.2.2.2.2.2.2.1 P.2.2.2.2.2.2.2.2.2.2.2.2.2.1 (fun q => absurd (Value.int.inj q) (by decide))
theorem own_ne_2_4 {Z : State} {h : Heap} {w : Nat → Addr} (P : Pins Z h w) : w 2 ≠ w 4 := Fld.ne P.2.2.2.2.2.2.2.2.2.2.2.1 P.2.2.2.2.2.2.2.2.2.2.2.2.2.2 (fun q => absurd (Value.int.inj q) (by decide))
theorem own_ne_0_3 {Z : State} {h : Heap} {w : Nat → Addr} (P : Pins Z h w) : w 0 ≠ w 3 := Fld.ne P.2.2.2.2.2.2.2.2.2.2.2.2.1 P.2.2.2.2.2.2.2.2.2.2.2.2.2.1 (fun q => absurd (Value.int.inj q) (by decide))
theorem own_ne_0_4 {Z : State} {h : Heap} {w : Nat → Addr} (P : Pins Z h w) : w 0 ≠ w 4 := Fld.ne P.2.2.2.2.2.2.2.2.2.2.2.2.1 P.2.2.2.2.2.2.2.2.2.2.2.2.2.2 (fun q => absurd (Value.int.inj q) (by decide))
theorem own_ne_3_4 {Z : State} {h : Heap} {w : Nat → Addr} (P : Pins Z h w) : w 3 ≠ w 4 := Fld.ne P.2.2.2.2.2.2.2.2.2.2.2.2.2.1 P.2.2.2.2.2.2.2.2.2.2.2.2.2.2 (fun q => absurd (Value.int.inj q) (by decide))
theorem own_split (x : Int32) : ((x &&& (2147483647 : Int32)) % (5 : Int32)) = (0 : Int32) ∨ ((x &&& (2147483647 : Int32)) % (5 : Int32)) = (1 : Int32) ∨ ((x &&& (2147483647 : Int32)) % (5 : Int32)) = (2 : Int32) ∨ ((x &&& (2147483647 : Int32)) % (5 : Int32)) = (3 : Int32) ∨ ((x &&& (2147483647 : Int32)) % (5 : Int32)) = (4 : Int32) := by
  have e1 : (x &&& (2147483647 : Int32)).toInt = x.toInt % 2 ^ 31 := Jvm.Kit.i32_mask x (2147483647 : Int32) (k := 31) (by decide) (by decide)
  have e2 : (((x &&& (2147483647 : Int32)) % (5 : Int32))).toInt = (x &&& (2147483647 : Int32)).toInt % (5 : Int32).toInt := Jvm.Kit.i32_rem_nonneg (by omega)
  rw [show (5 : Int32).toInt = 5 from by decide] at e2
  simp only [← Int32.toInt_inj]
  rw [show (0 : Int32).toInt = 0 from by decide, show (1 : Int32).toInt = 1 from by decide, show (2 : Int32).toInt = 2 from by decide, show (3 : Int32).toInt = 3 from by decide, show (4 : Int32).toInt = 4 from by decide]
  omega
theorem d1_0 : decode method_2_code 0 = .ok (.iload_n 0, 1) := by decide +kernel
theorem d1_1 : decode method_2_code 1 = .ok (.ifCond .ne 7, 3) := by decide +kernel
theorem d1_4 : decode method_2_code 4 = .ok (.getstatic 7, 3) := by decide +kernel
theorem d1_7 : decode method_2_code 7 = .ok (.areturn, 1) := by decide +kernel
theorem ef1_I (m : MethodId) (x0 : Int32) : entryFrame m #[(.int x0)] 1 = mkF m 0 #[.val (.int x0)] [] := by first | (simp [entryFrame, mkF, argsToLocals, Value.category]; done) | rfl
theorem pn0 : plainName "com/example/nextkey/nextkey/lock/LockKindCoversPinLaw" = true := by first | (simp [plainName, overriddenIn]; done) | decide +kernel
theorem pd0 : parseMethodDescriptor "(I)Lcom/example/nextkey/nextkey/lock/LockKind;" = some ⟨[.int], some (.object "com/example/nextkey/nextkey/lock/LockKind")⟩ := by decide +kernel
theorem d2_0 : decode method_3_code 0 = .ok (.iload_n 0, 1) := by decide +kernel
theorem d2_1 : decode method_3_code 1 = .ok (.ifCond .ne 5, 3) := by decide +kernel
theorem d2_4 : decode method_3_code 4 = .ok (.iconst 1, 1) := by decide +kernel
theorem d2_5 : decode method_3_code 5 = .ok (.ireturn, 1) := by decide +kernel
theorem ef2_I (m : MethodId) (x0 : Int32) : entryFrame m #[(.int x0)] 1 = mkF m 0 #[.val (.int x0)] [] := by first | (simp [entryFrame, mkF, argsToLocals, Value.category]; done) | rfl
theorem pd1 : parseMethodDescriptor "(I)I" = some ⟨[.int], some .int⟩ := by decide +kernel
theorem d3_0 : decode prog_11_method_7_code 0 = .ok (.aload_n 1, 1) := by decide +kernel
theorem d3_1 : decode prog_11_method_7_code 1 = .ok (.getstatic 16, 3) := by decide +kernel
theorem d3_4 : decode prog_11_method_7_code 4 = .ok (.if_acmp .eq 26, 3) := by decide +kernel
theorem d3_7 : decode prog_11_method_7_code 7 = .ok (.aload_n 0, 1) := by decide +kernel
theorem d3_8 : decode prog_11_method_7_code 8 = .ok (.aload_n 1, 1) := by decide +kernel
theorem d3_9 : decode prog_11_method_7_code 9 = .ok (.if_acmp .eq 17, 3) := by decide +kernel
theorem d3_26 : decode prog_11_method_7_code 26 = .ok (.iconst 1, 1) := by decide +kernel
theorem d3_27 : decode prog_11_method_7_code 27 = .ok (.goto 4, 3) := by decide +kernel
theorem d3_31 : decode prog_11_method_7_code 31 = .ok (.ireturn, 1) := by decide +kernel
theorem ef3_RR (m : MethodId) (x0 : Addr) (x1 : Addr) : entryFrame m #[(.ref x0), (.ref x1)] 2 = mkF m 0 #[.val (.ref x0), .val (.ref x1)] [] := by first | (simp [entryFrame, mkF, argsToLocals, Value.category]; done) | rfl
theorem pn1 : plainName "com/example/nextkey/nextkey/lock/LockKind" = true := by first | (simp [plainName, overriddenIn]; done) | decide +kernel
theorem pd2 : parseMethodDescriptor "(Lcom/example/nextkey/nextkey/lock/LockKind;)Z" = some ⟨[(.object "com/example/nextkey/nextkey/lock/LockKind")], some .boolean⟩ := by decide +kernel
theorem d1_8 : decode method_2_code 8 = .ok (.iload_n 0, 1) := by decide +kernel
theorem d1_9 : decode method_2_code 9 = .ok (.iconst 1, 1) := by decide +kernel
theorem d1_10 : decode method_2_code 10 = .ok (.if_icmp .ne 7, 3) := by decide +kernel
theorem d1_13 : decode method_2_code 13 = .ok (.getstatic 13, 3) := by decide +kernel
theorem d1_16 : decode method_2_code 16 = .ok (.areturn, 1) := by decide +kernel
theorem d2_6 : decode method_3_code 6 = .ok (.iload_n 0, 1) := by decide +kernel
theorem d2_7 : decode method_3_code 7 = .ok (.iconst 1, 1) := by decide +kernel
theorem d2_8 : decode method_3_code 8 = .ok (.if_icmp .ne 5, 3) := by decide +kernel
theorem d2_11 : decode method_3_code 11 = .ok (.iconst 2, 1) := by decide +kernel
theorem d2_12 : decode method_3_code 12 = .ok (.ireturn, 1) := by decide +kernel
theorem d3_12 : decode prog_11_method_7_code 12 = .ok (.aload_n 0, 1) := by decide +kernel
theorem d3_13 : decode prog_11_method_7_code 13 = .ok (.getstatic 13, 3) := by decide +kernel
theorem d3_16 : decode prog_11_method_7_code 16 = .ok (.if_acmp .ne 14, 3) := by decide +kernel
theorem d3_30 : decode prog_11_method_7_code 30 = .ok (.iconst 0, 1) := by decide +kernel
theorem d1_17 : decode method_2_code 17 = .ok (.iload_n 0, 1) := by decide +kernel
theorem d1_18 : decode method_2_code 18 = .ok (.iconst 2, 1) := by decide +kernel
theorem d1_19 : decode method_2_code 19 = .ok (.if_icmp .ne 7, 3) := by decide +kernel
theorem d1_22 : decode method_2_code 22 = .ok (.getstatic 16, 3) := by decide +kernel
theorem d1_25 : decode method_2_code 25 = .ok (.areturn, 1) := by decide +kernel
theorem d2_13 : decode method_3_code 13 = .ok (.iload_n 0, 1) := by decide +kernel
theorem d2_14 : decode method_3_code 14 = .ok (.iconst 2, 1) := by decide +kernel
theorem d2_15 : decode method_3_code 15 = .ok (.if_icmp .ne 5, 3) := by decide +kernel
theorem d2_18 : decode method_3_code 18 = .ok (.iconst 4, 1) := by decide +kernel
theorem d2_19 : decode method_3_code 19 = .ok (.ireturn, 1) := by decide +kernel
theorem d1_26 : decode method_2_code 26 = .ok (.iload_n 0, 1) := by decide +kernel
theorem d1_27 : decode method_2_code 27 = .ok (.iconst 3, 1) := by decide +kernel
theorem d1_28 : decode method_2_code 28 = .ok (.if_icmp .ne 7, 3) := by decide +kernel
theorem d1_31 : decode method_2_code 31 = .ok (.getstatic 19, 3) := by decide +kernel
theorem d1_34 : decode method_2_code 34 = .ok (.areturn, 1) := by decide +kernel
theorem d2_20 : decode method_3_code 20 = .ok (.iload_n 0, 1) := by decide +kernel
theorem d2_21 : decode method_3_code 21 = .ok (.iconst 3, 1) := by decide +kernel
theorem d2_22 : decode method_3_code 22 = .ok (.if_icmp .ne 6, 3) := by decide +kernel
theorem d2_25 : decode method_3_code 25 = .ok (.bipush 6, 2) := by decide +kernel
theorem d2_27 : decode method_3_code 27 = .ok (.ireturn, 1) := by decide +kernel
theorem d1_35 : decode method_2_code 35 = .ok (.getstatic 22, 3) := by decide +kernel
theorem d1_38 : decode method_2_code 38 = .ok (.areturn, 1) := by decide +kernel
theorem d3_19 : decode prog_11_method_7_code 19 = .ok (.aload_n 1, 1) := by decide +kernel
theorem d3_20 : decode prog_11_method_7_code 20 = .ok (.getstatic 3, 3) := by decide +kernel
theorem d3_23 : decode prog_11_method_7_code 23 = .ok (.if_acmp .eq 7, 3) := by decide +kernel
theorem ef0_II (m : MethodId) (x0 : Int32) (x1 : Int32) : entryFrame m #[(.int x0), (.int x1)] maxLocals = mkF m 0 #[.val (.int x0), .val (.int x1), .unset, .unset, .unset, .unset, .unset] [] := by first | (simp [entryFrame, mkF, argsToLocals, Value.category, maxLocals]; done) | rfl
set_option maxRecDepth 65536 in
set_option maxHeartbeats 40000000 in
theorem r1_0 (l : Launch) (Z : State) (a0 : Array Value) (hw : ∀ d ∈ tables_1, d.before a0 Z = true) (ws : List Jvm.Cond) (h0 : Heap) (n0 : Nat) (Z0 : n0 ≤ h0.size) (w : Nat → Addr) (P : Pins Z h0 w) :
    MetFree l (⟨"com/example/nextkey/nextkey/lock/LockKindCoversPinLaw", "kind", "(I)Lcom/example/nextkey/nextkey/lock/LockKind;"⟩ : MethodName) (head1 (Jvm.Cond.code (⟨"com/example/nextkey/nextkey/lock/LockKindCoversPinLaw", "kind", "(I)Lcom/example/nextkey/nextkey/lock/LockKind;"⟩ : MethodName) method_2_code 1 (some (.object "com/example/nextkey/nextkey/lock/LockKind")) :: ws) ({ frames := 0, cells := 0, slots := 0, locals := 0 } : Room)) (fun a U => a = #[(.int (0 : Int32))] ∧ Z.Warmed39 U.vm ∧ U.heap = h0) (fun _ _ _ _ _ => True) (fun _ U o U' => ∃ v L, o = .returned v ∧ QP (some (.ref (w 0))) h0 n0 v U'.heap L ∧ FrameEnd U o U' L ({ frames := 0, cells := 0, slots := 0, locals := 0 } : Room).cells ({ frames := 0, cells := 0, slots := 0, locals := 0 } : Room).slots) := by
  refine MetFree.of_bodySF (plainFor_of_name pn0) hisR ?_
  intro p e s m args below meth c s₁ Bd hml0 hP hK
  obtain ⟨rfl, hZ, hh⟩ := hP
  have hx := Bd.exec
  have hby := Bd.bytes
  have hml : c.maxLocals = 1 := hml0
  have hown : s.vm.findClass "com/example/nextkey/nextkey/lock/LockKindCoversPinLaw" = some m.cls := findClass_of_methodNamed Bd.named
  have hnm := (name_of_methodNamed Bd.named Bd.method).1
  have X0 : Stand p l e ({ frames := 0, cells := 0, slots := 0, locals := 0 } : Room) s m #[(.int (0 : Int32))] below meth c s₁ [] 0 0 := Stand.of_body Bd
  have e0 : s₁.heap = h0 := by rw [← hh, Bd.state]; rfl
  have N0 := Fr.nil n0
  refine Goes.out (Goes.by (fun tz kz => castTop (ef1_I m ((0 : Int32))) kz) ?_)
  show Goes p e below (s₁.setTop (mkF m 0 #[.val (.int (0 : Int32))] [])) _
  refine Goes.by (fun _ kz => XS.iloadN X0.here hx rfl (hb hby d1_0) rfl (XS.ifNo X0.here hx rfl (hb hby d1_1) rfl ((if0 _ _).trans (teq (by decide : (0 : Int32) = (0 : Int32))).2) kz)) ?_
  obtain ⟨T1, X1, e1, st1⟩ := getS2 X0 hx hZ hown (host := "") (Or.inl (hw _ (List.mem_of_getElem? (i := 5) rfl))) Via.refl e0 P.1 (g := (mkF m 4 #[.val (.int (0 : Int32))] [])) rfl (hb hby d1_4)
  refine Goes.by st1 ?_
  show Goes p e below (T1.setTop (mkF m 7 #[.val (.int (0 : Int32))] [(.ref (w 0))])) _
  obtain ⟨fs, hr, hrun, hended, hW, hsame⟩ := X1.leave (v := some (.ref (w 0))) (fun h => by rw [Bd.returns] at h; cases h)
  exact ⟨_, _, retOut X1 hx (t := (.object "com/example/nextkey/nextkey/lock/LockKind")) Bd.returns rfl (Or.inr (Or.inr (Or.inr (Or.inr ⟨rfl, rfl, rfl⟩)))) (hb hby d1_7) hr, hrun, hended, _, _, rfl, ⟨rfl, N0, e1⟩, ⟨_, rfl⟩, hW, hsame.mono (by decide) (by decide)⟩
set_option maxRecDepth 65536 in
set_option maxHeartbeats 40000000 in
theorem r2_1 (l : Launch) (Z : State) (a0 : Array Value) (hw : ∀ d ∈ tables_1, d.before a0 Z = true) (ws : List Jvm.Cond) (h0 : Heap) (n0 : Nat) (Z0 : n0 ≤ h0.size) (w : Nat → Addr) (P : Pins Z h0 w) :
    MetFree l (⟨"com/example/nextkey/nextkey/lock/LockKindCoversPinLaw", "parts", "(I)I"⟩ : MethodName) (head1 (Jvm.Cond.code (⟨"com/example/nextkey/nextkey/lock/LockKindCoversPinLaw", "parts", "(I)I"⟩ : MethodName) method_3_code 1 (some .int) :: ws) ({ frames := 0, cells := 0, slots := 0, locals := 0 } : Room)) (fun a U => a = #[(.int (0 : Int32))] ∧ Z.Warmed39 U.vm ∧ U.heap = h0) (fun _ _ _ _ _ => True) (fun _ U o U' => ∃ v L, o = .returned v ∧ QP (some (.int (1 : Int32))) h0 n0 v U'.heap L ∧ FrameEnd U o U' L ({ frames := 0, cells := 0, slots := 0, locals := 0 } : Room).cells ({ frames := 0, cells := 0, slots := 0, locals := 0 } : Room).slots) := by
  refine MetFree.of_bodySF (plainFor_of_name pn0) hisR ?_
  intro p e s m args below meth c s₁ Bd hml0 hP hK
  obtain ⟨rfl, hZ, hh⟩ := hP
  have hx := Bd.exec
  have hby := Bd.bytes
  have hml : c.maxLocals = 1 := hml0
  have hown : s.vm.findClass "com/example/nextkey/nextkey/lock/LockKindCoversPinLaw" = some m.cls := findClass_of_methodNamed Bd.named
  have hnm := (name_of_methodNamed Bd.named Bd.method).1
  have X0 : Stand p l e ({ frames := 0, cells := 0, slots := 0, locals := 0 } : Room) s m #[(.int (0 : Int32))] below meth c s₁ [] 0 0 := Stand.of_body Bd
  have e0 : s₁.heap = h0 := by rw [← hh, Bd.state]; rfl
  have N0 := Fr.nil n0
  refine Goes.out (Goes.by (fun tz kz => castTop (ef2_I m ((0 : Int32))) kz) ?_)
  show Goes p e below (s₁.setTop (mkF m 0 #[.val (.int (0 : Int32))] [])) _
  refine Goes.by (fun _ kz => XS.iloadN X0.here hx rfl (hb hby d2_0) rfl (XS.ifNo X0.here hx rfl (hb hby d2_1) rfl ((if0 _ _).trans (teq (by decide : (0 : Int32) = (0 : Int32))).2) (XS.iconst X0.here hx rfl (hb hby d2_4) kz))) ?_
  show Goes p e below (s₁.setTop (mkF m 5 #[.val (.int (0 : Int32))] [(.int (1 : Int32))])) _
  obtain ⟨fs, hr, hrun, hended, hW, hsame⟩ := X0.leave (v := some (.int (1 : Int32))) (fun h => by rw [Bd.returns] at h; cases h)
  exact ⟨_, _, retOut X0 hx (t := .int) Bd.returns rfl (Or.inl ⟨rfl, Or.inl rfl, _, rfl⟩) (hb hby d2_5) hr, hrun, hended, _, _, rfl, ⟨rfl, N0, e0⟩, ⟨_, rfl⟩, hW, hsame.mono (by decide) (by decide)⟩
set_option maxRecDepth 65536 in
set_option maxHeartbeats 40000000 in
theorem r3_2 (l : Launch) (Z : State) (a0 : Array Value) (hw : ∀ d ∈ tables_1, d.before a0 Z = true) (ws : List Jvm.Cond) (h0 : Heap) (n0 : Nat) (Z0 : n0 ≤ h0.size) (w : Nat → Addr) (P : Pins Z h0 w) :
    MetFree l (⟨"com/example/nextkey/nextkey/lock/LockKind", "covers", "(Lcom/example/nextkey/nextkey/lock/LockKind;)Z"⟩ : MethodName) (head1 (Jvm.Cond.code (⟨"com/example/nextkey/nextkey/lock/LockKind", "covers", "(Lcom/example/nextkey/nextkey/lock/LockKind;)Z"⟩ : MethodName) prog_11_method_7_code 2 (some .boolean) :: ws) ({ frames := 0, cells := 0, slots := 0, locals := 0 } : Room)) (fun a U => a = #[(.ref (w 0)), (.ref (w 0))] ∧ Z.Warmed39 U.vm ∧ U.heap = h0) (fun _ _ _ _ _ => True) (fun _ U o U' => ∃ v L, o = .returned v ∧ QP (some (.int (1 : Int32))) h0 n0 v U'.heap L ∧ FrameEnd U o U' L ({ frames := 0, cells := 0, slots := 0, locals := 0 } : Room).cells ({ frames := 0, cells := 0, slots := 0, locals := 0 } : Room).slots) := by
  refine MetFree.of_bodySF (plainFor_of_name pn1) hisR ?_
  intro p e s m args below meth c s₁ Bd hml0 hP hK
  obtain ⟨rfl, hZ, hh⟩ := hP
  have hx := Bd.exec
  have hby := Bd.bytes
  have hml : c.maxLocals = 2 := hml0
  have hown : s.vm.findClass "com/example/nextkey/nextkey/lock/LockKind" = some m.cls := findClass_of_methodNamed Bd.named
  have hnm := (name_of_methodNamed Bd.named Bd.method).1
  have X0 : Stand p l e ({ frames := 0, cells := 0, slots := 0, locals := 0 } : Room) s m #[(.ref (w 0)), (.ref (w 0))] below meth c s₁ [] 0 0 := Stand.of_body Bd
  have e0 : s₁.heap = h0 := by rw [← hh, Bd.state]; rfl
  have N0 := Fr.nil n0
  refine Goes.out (Goes.by (fun tz kz => castTop (ef3_RR m ((w 0)) ((w 0))) kz) ?_)
  show Goes p e below (s₁.setTop (mkF m 0 #[.val (.ref (w 0)), .val (.ref (w 0))] [])) _
  refine Goes.by (fun _ kz => XS.aloadN X0.here hx rfl (hb hby d3_0) rfl rfl kz) ?_
  obtain ⟨T6, X6, e6, st6⟩ := getS2 X0 hx hZ hown (host := "") (Or.inl (hw _ (List.mem_of_getElem? (i := 18) rfl))) Via.refl e0 P.2.2.2.2.1 (g := (mkF m 1 #[.val (.ref (w 0)), .val (.ref (w 0))] [(.ref (w 0))])) rfl (hb hby d3_1)
  refine Goes.by st6 ?_
  refine Goes.by (fun _ kz => Jvm.RoadKit.acmp (g := (mkF m 4 #[.val (.ref (w 0)), .val (.ref (w 0))] [(.ref (w 2)), (.ref (w 0))])) X6 hx rfl rfl rfl (pc0 := 4) (pc' := 7) (same := false) rfl (hb hby d3_4) rfl (decide_eq_false fun q => (Ne.symm (own_ne_2_0 P)) (Value.ref.inj q)) (by decide) (by decide) (XS.aloadN X6.here hx rfl (hb hby d3_7) rfl rfl (XS.aloadN X6.here hx rfl (hb hby d3_8) rfl rfl kz))) ?_
  show Goes p e below (T6.setTop (mkF m 9 #[.val (.ref (w 0)), .val (.ref (w 0))] [(.ref (w 0)), (.ref (w 0))])) _
  refine Goes.by (fun _ kz => Jvm.RoadKit.acmp (g := (mkF m 9 #[.val (.ref (w 0)), .val (.ref (w 0))] [(.ref (w 0)), (.ref (w 0))])) X6 hx rfl rfl rfl (pc0 := 9) (pc' := 26) (same := true) rfl (hb hby d3_9) rfl (decide_eq_true rfl) (by decide) (by decide) (XS.iconst X6.here hx rfl (hb hby d3_26) (XS.goto X6.here hx rfl (pc0 := 27) (pc' := 31) rfl (hb hby d3_27) (by decide) (by decide) kz))) ?_
  show Goes p e below (T6.setTop (mkF m 31 #[.val (.ref (w 0)), .val (.ref (w 0))] [(.int (1 : Int32))])) _
  obtain ⟨fs, hr, hrun, hended, hW, hsame⟩ := X6.leave (v := some (.int (1 : Int32))) (fun h => by rw [Bd.returns] at h; cases h)
  exact ⟨_, _, retN X6 hx (t := .boolean) Bd.returns (by simp) (hb hby d3_31) hr, hrun, hended, _, _, rfl, ⟨rfl, N0, e6⟩, ⟨_, rfl⟩, hW, hsame.mono (by decide) (by decide)⟩
set_option maxRecDepth 65536 in
set_option maxHeartbeats 40000000 in
theorem r1_3 (l : Launch) (Z : State) (a0 : Array Value) (hw : ∀ d ∈ tables_1, d.before a0 Z = true) (ws : List Jvm.Cond) (h0 : Heap) (n0 : Nat) (Z0 : n0 ≤ h0.size) (w : Nat → Addr) (P : Pins Z h0 w) :
    MetFree l (⟨"com/example/nextkey/nextkey/lock/LockKindCoversPinLaw", "kind", "(I)Lcom/example/nextkey/nextkey/lock/LockKind;"⟩ : MethodName) (head1 (Jvm.Cond.code (⟨"com/example/nextkey/nextkey/lock/LockKindCoversPinLaw", "kind", "(I)Lcom/example/nextkey/nextkey/lock/LockKind;"⟩ : MethodName) method_2_code 1 (some (.object "com/example/nextkey/nextkey/lock/LockKind")) :: ws) ({ frames := 0, cells := 0, slots := 0, locals := 0 } : Room)) (fun a U => a = #[(.int (1 : Int32))] ∧ Z.Warmed39 U.vm ∧ U.heap = h0) (fun _ _ _ _ _ => True) (fun _ U o U' => ∃ v L, o = .returned v ∧ QP (some (.ref (w 3))) h0 n0 v U'.heap L ∧ FrameEnd U o U' L ({ frames := 0, cells := 0, slots := 0, locals := 0 } : Room).cells ({ frames := 0, cells := 0, slots := 0, locals := 0 } : Room).slots) := by
  refine MetFree.of_bodySF (plainFor_of_name pn0) hisR ?_
  intro p e s m args below meth c s₁ Bd hml0 hP hK
  obtain ⟨rfl, hZ, hh⟩ := hP
  have hx := Bd.exec
  have hby := Bd.bytes
  have hml : c.maxLocals = 1 := hml0
  have hown : s.vm.findClass "com/example/nextkey/nextkey/lock/LockKindCoversPinLaw" = some m.cls := findClass_of_methodNamed Bd.named
  have hnm := (name_of_methodNamed Bd.named Bd.method).1
  have X0 : Stand p l e ({ frames := 0, cells := 0, slots := 0, locals := 0 } : Room) s m #[(.int (1 : Int32))] below meth c s₁ [] 0 0 := Stand.of_body Bd
  have e0 : s₁.heap = h0 := by rw [← hh, Bd.state]; rfl
  have N0 := Fr.nil n0
  refine Goes.out (Goes.by (fun tz kz => castTop (ef1_I m ((1 : Int32))) kz) ?_)
  show Goes p e below (s₁.setTop (mkF m 0 #[.val (.int (1 : Int32))] [])) _
  refine Goes.by (fun _ kz => XS.iloadN X0.here hx rfl (hb hby d1_0) rfl (XS.ifYes X0.here hx rfl (pc0 := 1) (pc' := 8) rfl (hb hby d1_1) rfl ((if0 _ _).trans (feq (by decide : ¬ ((1 : Int32) = (0 : Int32)))).2) (by decide) (by decide) (XS.iloadN X0.here hx rfl (hb hby d1_8) rfl kz))) ?_
  show Goes p e below (s₁.setTop (mkF m 9 #[.val (.int (1 : Int32))] [(.int (1 : Int32))])) _
  refine Goes.by (fun _ kz => XS.iconst X0.here hx rfl (hb hby d1_9) (XS.icmpNo X0.here hx rfl (hb hby d1_10) rfl (teq (by decide : (1 : Int32) = (1 : Int32))).2 kz)) ?_
  obtain ⟨T9, X9, e9, st9⟩ := getS2 X0 hx hZ hown (host := "") (Or.inl (hw _ (List.mem_of_getElem? (i := 22) rfl))) Via.refl e0 P.2.2.2.2.2.2.1 (g := (mkF m 13 #[.val (.int (1 : Int32))] [])) rfl (hb hby d1_13)
  refine Goes.by st9 ?_
  show Goes p e below (T9.setTop (mkF m 16 #[.val (.int (1 : Int32))] [(.ref (w 3))])) _
  obtain ⟨fs, hr, hrun, hended, hW, hsame⟩ := X9.leave (v := some (.ref (w 3))) (fun h => by rw [Bd.returns] at h; cases h)
  exact ⟨_, _, retOut X9 hx (t := (.object "com/example/nextkey/nextkey/lock/LockKind")) Bd.returns rfl (Or.inr (Or.inr (Or.inr (Or.inr ⟨rfl, rfl, rfl⟩)))) (hb hby d1_16) hr, hrun, hended, _, _, rfl, ⟨rfl, N0, e9⟩, ⟨_, rfl⟩, hW, hsame.mono (by decide) (by decide)⟩
set_option maxRecDepth 65536 in
set_option maxHeartbeats 40000000 in
theorem r2_4 (l : Launch) (Z : State) (a0 : Array Value) (hw : ∀ d ∈ tables_1, d.before a0 Z = true) (ws : List Jvm.Cond) (h0 : Heap) (n0 : Nat) (Z0 : n0 ≤ h0.size) (w : Nat → Addr) (P : Pins Z h0 w) :
    MetFree l (⟨"com/example/nextkey/nextkey/lock/LockKindCoversPinLaw", "parts", "(I)I"⟩ : MethodName) (head1 (Jvm.Cond.code (⟨"com/example/nextkey/nextkey/lock/LockKindCoversPinLaw", "parts", "(I)I"⟩ : MethodName) method_3_code 1 (some .int) :: ws) ({ frames := 0, cells := 0, slots := 0, locals := 0 } : Room)) (fun a U => a = #[(.int (1 : Int32))] ∧ Z.Warmed39 U.vm ∧ U.heap = h0) (fun _ _ _ _ _ => True) (fun _ U o U' => ∃ v L, o = .returned v ∧ QP (some (.int (2 : Int32))) h0 n0 v U'.heap L ∧ FrameEnd U o U' L ({ frames := 0, cells := 0, slots := 0, locals := 0 } : Room).cells ({ frames := 0, cells := 0, slots := 0, locals := 0 } : Room).slots) := by
  refine MetFree.of_bodySF (plainFor_of_name pn0) hisR ?_
  intro p e s m args below meth c s₁ Bd hml0 hP hK
  obtain ⟨rfl, hZ, hh⟩ := hP
  have hx := Bd.exec
  have hby := Bd.bytes
  have hml : c.maxLocals = 1 := hml0
  have hown : s.vm.findClass "com/example/nextkey/nextkey/lock/LockKindCoversPinLaw" = some m.cls := findClass_of_methodNamed Bd.named
  have hnm := (name_of_methodNamed Bd.named Bd.method).1
  have X0 : Stand p l e ({ frames := 0, cells := 0, slots := 0, locals := 0 } : Room) s m #[(.int (1 : Int32))] below meth c s₁ [] 0 0 := Stand.of_body Bd
  have e0 : s₁.heap = h0 := by rw [← hh, Bd.state]; rfl
  have N0 := Fr.nil n0
  refine Goes.out (Goes.by (fun tz kz => castTop (ef2_I m ((1 : Int32))) kz) ?_)
  show Goes p e below (s₁.setTop (mkF m 0 #[.val (.int (1 : Int32))] [])) _
  refine Goes.by (fun _ kz => XS.iloadN X0.here hx rfl (hb hby d2_0) rfl (XS.ifYes X0.here hx rfl (pc0 := 1) (pc' := 6) rfl (hb hby d2_1) rfl ((if0 _ _).trans (feq (by decide : ¬ ((1 : Int32) = (0 : Int32)))).2) (by decide) (by decide) (XS.iloadN X0.here hx rfl (hb hby d2_6) rfl kz))) ?_
  show Goes p e below (s₁.setTop (mkF m 7 #[.val (.int (1 : Int32))] [(.int (1 : Int32))])) _
  refine Goes.by (fun _ kz => XS.iconst X0.here hx rfl (hb hby d2_7) (XS.icmpNo X0.here hx rfl (hb hby d2_8) rfl (teq (by decide : (1 : Int32) = (1 : Int32))).2 (XS.iconst X0.here hx rfl (hb hby d2_11) kz))) ?_
  show Goes p e below (s₁.setTop (mkF m 12 #[.val (.int (1 : Int32))] [(.int (2 : Int32))])) _
  obtain ⟨fs, hr, hrun, hended, hW, hsame⟩ := X0.leave (v := some (.int (2 : Int32))) (fun h => by rw [Bd.returns] at h; cases h)
  exact ⟨_, _, retOut X0 hx (t := .int) Bd.returns rfl (Or.inl ⟨rfl, Or.inl rfl, _, rfl⟩) (hb hby d2_12) hr, hrun, hended, _, _, rfl, ⟨rfl, N0, e0⟩, ⟨_, rfl⟩, hW, hsame.mono (by decide) (by decide)⟩
set_option maxRecDepth 65536 in
set_option maxHeartbeats 40000000 in
theorem r3_5 (l : Launch) (Z : State) (a0 : Array Value) (hw : ∀ d ∈ tables_1, d.before a0 Z = true) (ws : List Jvm.Cond) (h0 : Heap) (n0 : Nat) (Z0 : n0 ≤ h0.size) (w : Nat → Addr) (P : Pins Z h0 w) :
    MetFree l (⟨"com/example/nextkey/nextkey/lock/LockKind", "covers", "(Lcom/example/nextkey/nextkey/lock/LockKind;)Z"⟩ : MethodName) (head1 (Jvm.Cond.code (⟨"com/example/nextkey/nextkey/lock/LockKind", "covers", "(Lcom/example/nextkey/nextkey/lock/LockKind;)Z"⟩ : MethodName) prog_11_method_7_code 2 (some .boolean) :: ws) ({ frames := 0, cells := 0, slots := 0, locals := 0 } : Room)) (fun a U => a = #[(.ref (w 0)), (.ref (w 3))] ∧ Z.Warmed39 U.vm ∧ U.heap = h0) (fun _ _ _ _ _ => True) (fun _ U o U' => ∃ v L, o = .returned v ∧ QP (some (.int (0 : Int32))) h0 n0 v U'.heap L ∧ FrameEnd U o U' L ({ frames := 0, cells := 0, slots := 0, locals := 0 } : Room).cells ({ frames := 0, cells := 0, slots := 0, locals := 0 } : Room).slots) := by
  refine MetFree.of_bodySF (plainFor_of_name pn1) hisR ?_
  intro p e s m args below meth c s₁ Bd hml0 hP hK
  obtain ⟨rfl, hZ, hh⟩ := hP
  have hx := Bd.exec
  have hby := Bd.bytes
  have hml : c.maxLocals = 2 := hml0
  have hown : s.vm.findClass "com/example/nextkey/nextkey/lock/LockKind" = some m.cls := findClass_of_methodNamed Bd.named
  have hnm := (name_of_methodNamed Bd.named Bd.method).1
  have X0 : Stand p l e ({ frames := 0, cells := 0, slots := 0, locals := 0 } : Room) s m #[(.ref (w 0)), (.ref (w 3))] below meth c s₁ [] 0 0 := Stand.of_body Bd
  have e0 : s₁.heap = h0 := by rw [← hh, Bd.state]; rfl
  have N0 := Fr.nil n0
  refine Goes.out (Goes.by (fun tz kz => castTop (ef3_RR m ((w 0)) ((w 3))) kz) ?_)
  show Goes p e below (s₁.setTop (mkF m 0 #[.val (.ref (w 0)), .val (.ref (w 3))] [])) _
  refine Goes.by (fun _ kz => XS.aloadN X0.here hx rfl (hb hby d3_0) rfl rfl kz) ?_
  obtain ⟨T13, X13, e13, st13⟩ := getS2 X0 hx hZ hown (host := "") (Or.inl (hw _ (List.mem_of_getElem? (i := 18) rfl))) Via.refl e0 P.2.2.2.2.1 (g := (mkF m 1 #[.val (.ref (w 0)), .val (.ref (w 3))] [(.ref (w 3))])) rfl (hb hby d3_1)
  refine Goes.by st13 ?_
  refine Goes.by (fun _ kz => Jvm.RoadKit.acmp (g := (mkF m 4 #[.val (.ref (w 0)), .val (.ref (w 3))] [(.ref (w 2)), (.ref (w 3))])) X13 hx rfl rfl rfl (pc0 := 4) (pc' := 7) (same := false) rfl (hb hby d3_4) rfl (decide_eq_false fun q => (Ne.symm (own_ne_2_3 P)) (Value.ref.inj q)) (by decide) (by decide) (XS.aloadN X13.here hx rfl (hb hby d3_7) rfl rfl (XS.aloadN X13.here hx rfl (hb hby d3_8) rfl rfl kz))) ?_
  show Goes p e below (T13.setTop (mkF m 9 #[.val (.ref (w 0)), .val (.ref (w 3))] [(.ref (w 3)), (.ref (w 0))])) _
  refine Goes.by (fun _ kz => Jvm.RoadKit.acmp (g := (mkF m 9 #[.val (.ref (w 0)), .val (.ref (w 3))] [(.ref (w 3)), (.ref (w 0))])) X13 hx rfl rfl rfl (pc0 := 9) (pc' := 12) (same := false) rfl (hb hby d3_9) rfl (decide_eq_false fun q => (own_ne_0_3 P) (Value.ref.inj q)) (by decide) (by decide) (XS.aloadN X13.here hx rfl (hb hby d3_12) rfl rfl kz)) ?_
  obtain ⟨T14, X14, e14, st14⟩ := getS2 X13 hx hZ hown (host := "") (Or.inl (hw _ (List.mem_of_getElem? (i := 20) rfl))) Via.refl e13 P.2.2.1 (g := (mkF m 13 #[.val (.ref (w 0)), .val (.ref (w 3))] [(.ref (w 0))])) rfl (hb hby d3_13)
  refine Goes.by st14 ?_
  refine Goes.by (fun _ kz => Jvm.RoadKit.acmp (g := (mkF m 16 #[.val (.ref (w 0)), .val (.ref (w 3))] [(.ref (w 1)), (.ref (w 0))])) X14 hx rfl rfl rfl (pc0 := 16) (pc' := 30) (same := false) rfl (hb hby d3_16) rfl (decide_eq_false fun q => (Ne.symm (own_ne_1_0 P)) (Value.ref.inj q)) (by decide) (by decide) (XS.iconst X14.here hx rfl (hb hby d3_30) kz)) ?_
  show Goes p e below (T14.setTop (mkF m 31 #[.val (.ref (w 0)), .val (.ref (w 3))] [(.int (0 : Int32))])) _
  obtain ⟨fs, hr, hrun, hended, hW, hsame⟩ := X14.leave (v := some (.int (0 : Int32))) (fun h => by rw [Bd.returns] at h; cases h)
  exact ⟨_, _, retN X14 hx (t := .boolean) Bd.returns (by simp) (hb hby d3_31) hr, hrun, hended, _, _, rfl, ⟨rfl, N0, e14⟩, ⟨_, rfl⟩, hW, hsame.mono (by decide) (by decide)⟩
set_option maxRecDepth 65536 in
set_option maxHeartbeats 40000000 in
theorem r1_6 (l : Launch) (Z : State) (a0 : Array Value) (hw : ∀ d ∈ tables_1, d.before a0 Z = true) (ws : List Jvm.Cond) (h0 : Heap) (n0 : Nat) (Z0 : n0 ≤ h0.size) (w : Nat → Addr) (P : Pins Z h0 w) :
    MetFree l (⟨"com/example/nextkey/nextkey/lock/LockKindCoversPinLaw", "kind", "(I)Lcom/example/nextkey/nextkey/lock/LockKind;"⟩ : MethodName) (head1 (Jvm.Cond.code (⟨"com/example/nextkey/nextkey/lock/LockKindCoversPinLaw", "kind", "(I)Lcom/example/nextkey/nextkey/lock/LockKind;"⟩ : MethodName) method_2_code 1 (some (.object "com/example/nextkey/nextkey/lock/LockKind")) :: ws) ({ frames := 0, cells := 0, slots := 0, locals := 0 } : Room)) (fun a U => a = #[(.int (2 : Int32))] ∧ Z.Warmed39 U.vm ∧ U.heap = h0) (fun _ _ _ _ _ => True) (fun _ U o U' => ∃ v L, o = .returned v ∧ QP (some (.ref (w 4))) h0 n0 v U'.heap L ∧ FrameEnd U o U' L ({ frames := 0, cells := 0, slots := 0, locals := 0 } : Room).cells ({ frames := 0, cells := 0, slots := 0, locals := 0 } : Room).slots) := by
  refine MetFree.of_bodySF (plainFor_of_name pn0) hisR ?_
  intro p e s m args below meth c s₁ Bd hml0 hP hK
  obtain ⟨rfl, hZ, hh⟩ := hP
  have hx := Bd.exec
  have hby := Bd.bytes
  have hml : c.maxLocals = 1 := hml0
  have hown : s.vm.findClass "com/example/nextkey/nextkey/lock/LockKindCoversPinLaw" = some m.cls := findClass_of_methodNamed Bd.named
  have hnm := (name_of_methodNamed Bd.named Bd.method).1
  have X0 : Stand p l e ({ frames := 0, cells := 0, slots := 0, locals := 0 } : Room) s m #[(.int (2 : Int32))] below meth c s₁ [] 0 0 := Stand.of_body Bd
  have e0 : s₁.heap = h0 := by rw [← hh, Bd.state]; rfl
  have N0 := Fr.nil n0
  refine Goes.out (Goes.by (fun tz kz => castTop (ef1_I m ((2 : Int32))) kz) ?_)
  show Goes p e below (s₁.setTop (mkF m 0 #[.val (.int (2 : Int32))] [])) _
  refine Goes.by (fun _ kz => XS.iloadN X0.here hx rfl (hb hby d1_0) rfl (XS.ifYes X0.here hx rfl (pc0 := 1) (pc' := 8) rfl (hb hby d1_1) rfl ((if0 _ _).trans (feq (by decide : ¬ ((2 : Int32) = (0 : Int32)))).2) (by decide) (by decide) (XS.iloadN X0.here hx rfl (hb hby d1_8) rfl kz))) ?_
  show Goes p e below (s₁.setTop (mkF m 9 #[.val (.int (2 : Int32))] [(.int (2 : Int32))])) _
  refine Goes.by (fun _ kz => XS.iconst X0.here hx rfl (hb hby d1_9) (XS.icmpYes X0.here hx rfl (pc0 := 10) (pc' := 17) rfl (hb hby d1_10) rfl (feq (by decide : ¬ ((2 : Int32) = (1 : Int32)))).2 (by decide) (by decide) (XS.iloadN X0.here hx rfl (hb hby d1_17) rfl kz))) ?_
  show Goes p e below (s₁.setTop (mkF m 18 #[.val (.int (2 : Int32))] [(.int (2 : Int32))])) _
  refine Goes.by (fun _ kz => XS.iconst X0.here hx rfl (hb hby d1_18) (XS.icmpNo X0.here hx rfl (hb hby d1_19) rfl (teq (by decide : (2 : Int32) = (2 : Int32))).2 kz)) ?_
  obtain ⟨T17, X17, e17, st17⟩ := getS2 X0 hx hZ hown (host := "") (Or.inl (hw _ (List.mem_of_getElem? (i := 25) rfl))) Via.refl e0 P.2.2.2.2.2.2.2.2.1 (g := (mkF m 22 #[.val (.int (2 : Int32))] [])) rfl (hb hby d1_22)
  refine Goes.by st17 ?_
  show Goes p e below (T17.setTop (mkF m 25 #[.val (.int (2 : Int32))] [(.ref (w 4))])) _
  obtain ⟨fs, hr, hrun, hended, hW, hsame⟩ := X17.leave (v := some (.ref (w 4))) (fun h => by rw [Bd.returns] at h; cases h)
  exact ⟨_, _, retOut X17 hx (t := (.object "com/example/nextkey/nextkey/lock/LockKind")) Bd.returns rfl (Or.inr (Or.inr (Or.inr (Or.inr ⟨rfl, rfl, rfl⟩)))) (hb hby d1_25) hr, hrun, hended, _, _, rfl, ⟨rfl, N0, e17⟩, ⟨_, rfl⟩, hW, hsame.mono (by decide) (by decide)⟩
set_option maxRecDepth 65536 in
set_option maxHeartbeats 40000000 in
theorem r2_7 (l : Launch) (Z : State) (a0 : Array Value) (hw : ∀ d ∈ tables_1, d.before a0 Z = true) (ws : List Jvm.Cond) (h0 : Heap) (n0 : Nat) (Z0 : n0 ≤ h0.size) (w : Nat → Addr) (P : Pins Z h0 w) :
    MetFree l (⟨"com/example/nextkey/nextkey/lock/LockKindCoversPinLaw", "parts", "(I)I"⟩ : MethodName) (head1 (Jvm.Cond.code (⟨"com/example/nextkey/nextkey/lock/LockKindCoversPinLaw", "parts", "(I)I"⟩ : MethodName) method_3_code 1 (some .int) :: ws) ({ frames := 0, cells := 0, slots := 0, locals := 0 } : Room)) (fun a U => a = #[(.int (2 : Int32))] ∧ Z.Warmed39 U.vm ∧ U.heap = h0) (fun _ _ _ _ _ => True) (fun _ U o U' => ∃ v L, o = .returned v ∧ QP (some (.int (4 : Int32))) h0 n0 v U'.heap L ∧ FrameEnd U o U' L ({ frames := 0, cells := 0, slots := 0, locals := 0 } : Room).cells ({ frames := 0, cells := 0, slots := 0, locals := 0 } : Room).slots) := by
  refine MetFree.of_bodySF (plainFor_of_name pn0) hisR ?_
  intro p e s m args below meth c s₁ Bd hml0 hP hK
  obtain ⟨rfl, hZ, hh⟩ := hP
  have hx := Bd.exec
  have hby := Bd.bytes
  have hml : c.maxLocals = 1 := hml0
  have hown : s.vm.findClass "com/example/nextkey/nextkey/lock/LockKindCoversPinLaw" = some m.cls := findClass_of_methodNamed Bd.named
  have hnm := (name_of_methodNamed Bd.named Bd.method).1
  have X0 : Stand p l e ({ frames := 0, cells := 0, slots := 0, locals := 0 } : Room) s m #[(.int (2 : Int32))] below meth c s₁ [] 0 0 := Stand.of_body Bd
  have e0 : s₁.heap = h0 := by rw [← hh, Bd.state]; rfl
  have N0 := Fr.nil n0
  refine Goes.out (Goes.by (fun tz kz => castTop (ef2_I m ((2 : Int32))) kz) ?_)
  show Goes p e below (s₁.setTop (mkF m 0 #[.val (.int (2 : Int32))] [])) _
  refine Goes.by (fun _ kz => XS.iloadN X0.here hx rfl (hb hby d2_0) rfl (XS.ifYes X0.here hx rfl (pc0 := 1) (pc' := 6) rfl (hb hby d2_1) rfl ((if0 _ _).trans (feq (by decide : ¬ ((2 : Int32) = (0 : Int32)))).2) (by decide) (by decide) (XS.iloadN X0.here hx rfl (hb hby d2_6) rfl kz))) ?_
  show Goes p e below (s₁.setTop (mkF m 7 #[.val (.int (2 : Int32))] [(.int (2 : Int32))])) _
  refine Goes.by (fun _ kz => XS.iconst X0.here hx rfl (hb hby d2_7) (XS.icmpYes X0.here hx rfl (pc0 := 8) (pc' := 13) rfl (hb hby d2_8) rfl (feq (by decide : ¬ ((2 : Int32) = (1 : Int32)))).2 (by decide) (by decide) (XS.iloadN X0.here hx rfl (hb hby d2_13) rfl kz))) ?_
  show Goes p e below (s₁.setTop (mkF m 14 #[.val (.int (2 : Int32))] [(.int (2 : Int32))])) _
  refine Goes.by (fun _ kz => XS.iconst X0.here hx rfl (hb hby d2_14) (XS.icmpNo X0.here hx rfl (hb hby d2_15) rfl (teq (by decide : (2 : Int32) = (2 : Int32))).2 (XS.iconst X0.here hx rfl (hb hby d2_18) kz))) ?_
  show Goes p e below (s₁.setTop (mkF m 19 #[.val (.int (2 : Int32))] [(.int (4 : Int32))])) _
  obtain ⟨fs, hr, hrun, hended, hW, hsame⟩ := X0.leave (v := some (.int (4 : Int32))) (fun h => by rw [Bd.returns] at h; cases h)
  exact ⟨_, _, retOut X0 hx (t := .int) Bd.returns rfl (Or.inl ⟨rfl, Or.inl rfl, _, rfl⟩) (hb hby d2_19) hr, hrun, hended, _, _, rfl, ⟨rfl, N0, e0⟩, ⟨_, rfl⟩, hW, hsame.mono (by decide) (by decide)⟩
set_option maxRecDepth 65536 in
set_option maxHeartbeats 40000000 in
theorem r3_8 (l : Launch) (Z : State) (a0 : Array Value) (hw : ∀ d ∈ tables_1, d.before a0 Z = true) (ws : List Jvm.Cond) (h0 : Heap) (n0 : Nat) (Z0 : n0 ≤ h0.size) (w : Nat → Addr) (P : Pins Z h0 w) :
    MetFree l (⟨"com/example/nextkey/nextkey/lock/LockKind", "covers", "(Lcom/example/nextkey/nextkey/lock/LockKind;)Z"⟩ : MethodName) (head1 (Jvm.Cond.code (⟨"com/example/nextkey/nextkey/lock/LockKind", "covers", "(Lcom/example/nextkey/nextkey/lock/LockKind;)Z"⟩ : MethodName) prog_11_method_7_code 2 (some .boolean) :: ws) ({ frames := 0, cells := 0, slots := 0, locals := 0 } : Room)) (fun a U => a = #[(.ref (w 0)), (.ref (w 4))] ∧ Z.Warmed39 U.vm ∧ U.heap = h0) (fun _ _ _ _ _ => True) (fun _ U o U' => ∃ v L, o = .returned v ∧ QP (some (.int (0 : Int32))) h0 n0 v U'.heap L ∧ FrameEnd U o U' L ({ frames := 0, cells := 0, slots := 0, locals := 0 } : Room).cells ({ frames := 0, cells := 0, slots := 0, locals := 0 } : Room).slots) := by
  refine MetFree.of_bodySF (plainFor_of_name pn1) hisR ?_
  intro p e s m args below meth c s₁ Bd hml0 hP hK
  obtain ⟨rfl, hZ, hh⟩ := hP
  have hx := Bd.exec
  have hby := Bd.bytes
  have hml : c.maxLocals = 2 := hml0
  have hown : s.vm.findClass "com/example/nextkey/nextkey/lock/LockKind" = some m.cls := findClass_of_methodNamed Bd.named
  have hnm := (name_of_methodNamed Bd.named Bd.method).1
  have X0 : Stand p l e ({ frames := 0, cells := 0, slots := 0, locals := 0 } : Room) s m #[(.ref (w 0)), (.ref (w 4))] below meth c s₁ [] 0 0 := Stand.of_body Bd
  have e0 : s₁.heap = h0 := by rw [← hh, Bd.state]; rfl
  have N0 := Fr.nil n0
  refine Goes.out (Goes.by (fun tz kz => castTop (ef3_RR m ((w 0)) ((w 4))) kz) ?_)
  show Goes p e below (s₁.setTop (mkF m 0 #[.val (.ref (w 0)), .val (.ref (w 4))] [])) _
  refine Goes.by (fun _ kz => XS.aloadN X0.here hx rfl (hb hby d3_0) rfl rfl kz) ?_
  obtain ⟨T21, X21, e21, st21⟩ := getS2 X0 hx hZ hown (host := "") (Or.inl (hw _ (List.mem_of_getElem? (i := 18) rfl))) Via.refl e0 P.2.2.2.2.1 (g := (mkF m 1 #[.val (.ref (w 0)), .val (.ref (w 4))] [(.ref (w 4))])) rfl (hb hby d3_1)
  refine Goes.by st21 ?_
  refine Goes.by (fun _ kz => Jvm.RoadKit.acmp (g := (mkF m 4 #[.val (.ref (w 0)), .val (.ref (w 4))] [(.ref (w 2)), (.ref (w 4))])) X21 hx rfl rfl rfl (pc0 := 4) (pc' := 7) (same := false) rfl (hb hby d3_4) rfl (decide_eq_false fun q => (Ne.symm (own_ne_2_4 P)) (Value.ref.inj q)) (by decide) (by decide) (XS.aloadN X21.here hx rfl (hb hby d3_7) rfl rfl (XS.aloadN X21.here hx rfl (hb hby d3_8) rfl rfl kz))) ?_
  show Goes p e below (T21.setTop (mkF m 9 #[.val (.ref (w 0)), .val (.ref (w 4))] [(.ref (w 4)), (.ref (w 0))])) _
  refine Goes.by (fun _ kz => Jvm.RoadKit.acmp (g := (mkF m 9 #[.val (.ref (w 0)), .val (.ref (w 4))] [(.ref (w 4)), (.ref (w 0))])) X21 hx rfl rfl rfl (pc0 := 9) (pc' := 12) (same := false) rfl (hb hby d3_9) rfl (decide_eq_false fun q => (own_ne_0_4 P) (Value.ref.inj q)) (by decide) (by decide) (XS.aloadN X21.here hx rfl (hb hby d3_12) rfl rfl kz)) ?_
  obtain ⟨T22, X22, e22, st22⟩ := getS2 X21 hx hZ hown (host := "") (Or.inl (hw _ (List.mem_of_getElem? (i := 20) rfl))) Via.refl e21 P.2.2.1 (g := (mkF m 13 #[.val (.ref (w 0)), .val (.ref (w 4))] [(.ref (w 0))])) rfl (hb hby d3_13)
  refine Goes.by st22 ?_
  refine Goes.by (fun _ kz => Jvm.RoadKit.acmp (g := (mkF m 16 #[.val (.ref (w 0)), .val (.ref (w 4))] [(.ref (w 1)), (.ref (w 0))])) X22 hx rfl rfl rfl (pc0 := 16) (pc' := 30) (same := false) rfl (hb hby d3_16) rfl (decide_eq_false fun q => (Ne.symm (own_ne_1_0 P)) (Value.ref.inj q)) (by decide) (by decide) (XS.iconst X22.here hx rfl (hb hby d3_30) kz)) ?_
  show Goes p e below (T22.setTop (mkF m 31 #[.val (.ref (w 0)), .val (.ref (w 4))] [(.int (0 : Int32))])) _
  obtain ⟨fs, hr, hrun, hended, hW, hsame⟩ := X22.leave (v := some (.int (0 : Int32))) (fun h => by rw [Bd.returns] at h; cases h)
  exact ⟨_, _, retN X22 hx (t := .boolean) Bd.returns (by simp) (hb hby d3_31) hr, hrun, hended, _, _, rfl, ⟨rfl, N0, e22⟩, ⟨_, rfl⟩, hW, hsame.mono (by decide) (by decide)⟩
set_option maxRecDepth 65536 in
set_option maxHeartbeats 40000000 in
theorem r1_9 (l : Launch) (Z : State) (a0 : Array Value) (hw : ∀ d ∈ tables_1, d.before a0 Z = true) (ws : List Jvm.Cond) (h0 : Heap) (n0 : Nat) (Z0 : n0 ≤ h0.size) (w : Nat → Addr) (P : Pins Z h0 w) :
    MetFree l (⟨"com/example/nextkey/nextkey/lock/LockKindCoversPinLaw", "kind", "(I)Lcom/example/nextkey/nextkey/lock/LockKind;"⟩ : MethodName) (head1 (Jvm.Cond.code (⟨"com/example/nextkey/nextkey/lock/LockKindCoversPinLaw", "kind", "(I)Lcom/example/nextkey/nextkey/lock/LockKind;"⟩ : MethodName) method_2_code 1 (some (.object "com/example/nextkey/nextkey/lock/LockKind")) :: ws) ({ frames := 0, cells := 0, slots := 0, locals := 0 } : Room)) (fun a U => a = #[(.int (3 : Int32))] ∧ Z.Warmed39 U.vm ∧ U.heap = h0) (fun _ _ _ _ _ => True) (fun _ U o U' => ∃ v L, o = .returned v ∧ QP (some (.ref (w 1))) h0 n0 v U'.heap L ∧ FrameEnd U o U' L ({ frames := 0, cells := 0, slots := 0, locals := 0 } : Room).cells ({ frames := 0, cells := 0, slots := 0, locals := 0 } : Room).slots) := by
  refine MetFree.of_bodySF (plainFor_of_name pn0) hisR ?_
  intro p e s m args below meth c s₁ Bd hml0 hP hK
  obtain ⟨rfl, hZ, hh⟩ := hP
  have hx := Bd.exec
  have hby := Bd.bytes
  have hml : c.maxLocals = 1 := hml0
  have hown : s.vm.findClass "com/example/nextkey/nextkey/lock/LockKindCoversPinLaw" = some m.cls := findClass_of_methodNamed Bd.named
  have hnm := (name_of_methodNamed Bd.named Bd.method).1
  have X0 : Stand p l e ({ frames := 0, cells := 0, slots := 0, locals := 0 } : Room) s m #[(.int (3 : Int32))] below meth c s₁ [] 0 0 := Stand.of_body Bd
  have e0 : s₁.heap = h0 := by rw [← hh, Bd.state]; rfl
  have N0 := Fr.nil n0
  refine Goes.out (Goes.by (fun tz kz => castTop (ef1_I m ((3 : Int32))) kz) ?_)
  show Goes p e below (s₁.setTop (mkF m 0 #[.val (.int (3 : Int32))] [])) _
  refine Goes.by (fun _ kz => XS.iloadN X0.here hx rfl (hb hby d1_0) rfl (XS.ifYes X0.here hx rfl (pc0 := 1) (pc' := 8) rfl (hb hby d1_1) rfl ((if0 _ _).trans (feq (by decide : ¬ ((3 : Int32) = (0 : Int32)))).2) (by decide) (by decide) (XS.iloadN X0.here hx rfl (hb hby d1_8) rfl kz))) ?_
  show Goes p e below (s₁.setTop (mkF m 9 #[.val (.int (3 : Int32))] [(.int (3 : Int32))])) _
  refine Goes.by (fun _ kz => XS.iconst X0.here hx rfl (hb hby d1_9) (XS.icmpYes X0.here hx rfl (pc0 := 10) (pc' := 17) rfl (hb hby d1_10) rfl (feq (by decide : ¬ ((3 : Int32) = (1 : Int32)))).2 (by decide) (by decide) (XS.iloadN X0.here hx rfl (hb hby d1_17) rfl kz))) ?_
  show Goes p e below (s₁.setTop (mkF m 18 #[.val (.int (3 : Int32))] [(.int (3 : Int32))])) _
  refine Goes.by (fun _ kz => XS.iconst X0.here hx rfl (hb hby d1_18) (XS.icmpYes X0.here hx rfl (pc0 := 19) (pc' := 26) rfl (hb hby d1_19) rfl (feq (by decide : ¬ ((3 : Int32) = (2 : Int32)))).2 (by decide) (by decide) (XS.iloadN X0.here hx rfl (hb hby d1_26) rfl kz))) ?_
  show Goes p e below (s₁.setTop (mkF m 27 #[.val (.int (3 : Int32))] [(.int (3 : Int32))])) _
  refine Goes.by (fun _ kz => XS.iconst X0.here hx rfl (hb hby d1_27) (XS.icmpNo X0.here hx rfl (hb hby d1_28) rfl (teq (by decide : (3 : Int32) = (3 : Int32))).2 kz)) ?_
  obtain ⟨T25, X25, e25, st25⟩ := getS2 X0 hx hZ hown (host := "") (Or.inl (hw _ (List.mem_of_getElem? (i := 8) rfl))) Via.refl e0 P.2.2.1 (g := (mkF m 31 #[.val (.int (3 : Int32))] [])) rfl (hb hby d1_31)
  refine Goes.by st25 ?_
  show Goes p e below (T25.setTop (mkF m 34 #[.val (.int (3 : Int32))] [(.ref (w 1))])) _
  obtain ⟨fs, hr, hrun, hended, hW, hsame⟩ := X25.leave (v := some (.ref (w 1))) (fun h => by rw [Bd.returns] at h; cases h)
  exact ⟨_, _, retOut X25 hx (t := (.object "com/example/nextkey/nextkey/lock/LockKind")) Bd.returns rfl (Or.inr (Or.inr (Or.inr (Or.inr ⟨rfl, rfl, rfl⟩)))) (hb hby d1_34) hr, hrun, hended, _, _, rfl, ⟨rfl, N0, e25⟩, ⟨_, rfl⟩, hW, hsame.mono (by decide) (by decide)⟩
set_option maxRecDepth 65536 in
set_option maxHeartbeats 40000000 in
theorem r2_10 (l : Launch) (Z : State) (a0 : Array Value) (hw : ∀ d ∈ tables_1, d.before a0 Z = true) (ws : List Jvm.Cond) (h0 : Heap) (n0 : Nat) (Z0 : n0 ≤ h0.size) (w : Nat → Addr) (P : Pins Z h0 w) :
    MetFree l (⟨"com/example/nextkey/nextkey/lock/LockKindCoversPinLaw", "parts", "(I)I"⟩ : MethodName) (head1 (Jvm.Cond.code (⟨"com/example/nextkey/nextkey/lock/LockKindCoversPinLaw", "parts", "(I)I"⟩ : MethodName) method_3_code 1 (some .int) :: ws) ({ frames := 0, cells := 0, slots := 0, locals := 0 } : Room)) (fun a U => a = #[(.int (3 : Int32))] ∧ Z.Warmed39 U.vm ∧ U.heap = h0) (fun _ _ _ _ _ => True) (fun _ U o U' => ∃ v L, o = .returned v ∧ QP (some (.int (6 : Int32))) h0 n0 v U'.heap L ∧ FrameEnd U o U' L ({ frames := 0, cells := 0, slots := 0, locals := 0 } : Room).cells ({ frames := 0, cells := 0, slots := 0, locals := 0 } : Room).slots) := by
  refine MetFree.of_bodySF (plainFor_of_name pn0) hisR ?_
  intro p e s m args below meth c s₁ Bd hml0 hP hK
  obtain ⟨rfl, hZ, hh⟩ := hP
  have hx := Bd.exec
  have hby := Bd.bytes
  have hml : c.maxLocals = 1 := hml0
  have hown : s.vm.findClass "com/example/nextkey/nextkey/lock/LockKindCoversPinLaw" = some m.cls := findClass_of_methodNamed Bd.named
  have hnm := (name_of_methodNamed Bd.named Bd.method).1
  have X0 : Stand p l e ({ frames := 0, cells := 0, slots := 0, locals := 0 } : Room) s m #[(.int (3 : Int32))] below meth c s₁ [] 0 0 := Stand.of_body Bd
  have e0 : s₁.heap = h0 := by rw [← hh, Bd.state]; rfl
  have N0 := Fr.nil n0
  refine Goes.out (Goes.by (fun tz kz => castTop (ef2_I m ((3 : Int32))) kz) ?_)
  show Goes p e below (s₁.setTop (mkF m 0 #[.val (.int (3 : Int32))] [])) _
  refine Goes.by (fun _ kz => XS.iloadN X0.here hx rfl (hb hby d2_0) rfl (XS.ifYes X0.here hx rfl (pc0 := 1) (pc' := 6) rfl (hb hby d2_1) rfl ((if0 _ _).trans (feq (by decide : ¬ ((3 : Int32) = (0 : Int32)))).2) (by decide) (by decide) (XS.iloadN X0.here hx rfl (hb hby d2_6) rfl kz))) ?_
  show Goes p e below (s₁.setTop (mkF m 7 #[.val (.int (3 : Int32))] [(.int (3 : Int32))])) _
  refine Goes.by (fun _ kz => XS.iconst X0.here hx rfl (hb hby d2_7) (XS.icmpYes X0.here hx rfl (pc0 := 8) (pc' := 13) rfl (hb hby d2_8) rfl (feq (by decide : ¬ ((3 : Int32) = (1 : Int32)))).2 (by decide) (by decide) (XS.iloadN X0.here hx rfl (hb hby d2_13) rfl kz))) ?_
  show Goes p e below (s₁.setTop (mkF m 14 #[.val (.int (3 : Int32))] [(.int (3 : Int32))])) _
  refine Goes.by (fun _ kz => XS.iconst X0.here hx rfl (hb hby d2_14) (XS.icmpYes X0.here hx rfl (pc0 := 15) (pc' := 20) rfl (hb hby d2_15) rfl (feq (by decide : ¬ ((3 : Int32) = (2 : Int32)))).2 (by decide) (by decide) (XS.iloadN X0.here hx rfl (hb hby d2_20) rfl kz))) ?_
  show Goes p e below (s₁.setTop (mkF m 21 #[.val (.int (3 : Int32))] [(.int (3 : Int32))])) _
  refine Goes.by (fun _ kz => XS.iconst X0.here hx rfl (hb hby d2_21) (XS.icmpNo X0.here hx rfl (hb hby d2_22) rfl (teq (by decide : (3 : Int32) = (3 : Int32))).2 (XS.bipush X0.here hx rfl (hb hby d2_25) kz))) ?_
  show Goes p e below (s₁.setTop (mkF m 27 #[.val (.int (3 : Int32))] [(.int (6 : Int32))])) _
  obtain ⟨fs, hr, hrun, hended, hW, hsame⟩ := X0.leave (v := some (.int (6 : Int32))) (fun h => by rw [Bd.returns] at h; cases h)
  exact ⟨_, _, retOut X0 hx (t := .int) Bd.returns rfl (Or.inl ⟨rfl, Or.inl rfl, _, rfl⟩) (hb hby d2_27) hr, hrun, hended, _, _, rfl, ⟨rfl, N0, e0⟩, ⟨_, rfl⟩, hW, hsame.mono (by decide) (by decide)⟩
set_option maxRecDepth 65536 in
set_option maxHeartbeats 40000000 in
theorem r3_11 (l : Launch) (Z : State) (a0 : Array Value) (hw : ∀ d ∈ tables_1, d.before a0 Z = true) (ws : List Jvm.Cond) (h0 : Heap) (n0 : Nat) (Z0 : n0 ≤ h0.size) (w : Nat → Addr) (P : Pins Z h0 w) :
    MetFree l (⟨"com/example/nextkey/nextkey/lock/LockKind", "covers", "(Lcom/example/nextkey/nextkey/lock/LockKind;)Z"⟩ : MethodName) (head1 (Jvm.Cond.code (⟨"com/example/nextkey/nextkey/lock/LockKind", "covers", "(Lcom/example/nextkey/nextkey/lock/LockKind;)Z"⟩ : MethodName) prog_11_method_7_code 2 (some .boolean) :: ws) ({ frames := 0, cells := 0, slots := 0, locals := 0 } : Room)) (fun a U => a = #[(.ref (w 0)), (.ref (w 1))] ∧ Z.Warmed39 U.vm ∧ U.heap = h0) (fun _ _ _ _ _ => True) (fun _ U o U' => ∃ v L, o = .returned v ∧ QP (some (.int (0 : Int32))) h0 n0 v U'.heap L ∧ FrameEnd U o U' L ({ frames := 0, cells := 0, slots := 0, locals := 0 } : Room).cells ({ frames := 0, cells := 0, slots := 0, locals := 0 } : Room).slots) := by
  refine MetFree.of_bodySF (plainFor_of_name pn1) hisR ?_
  intro p e s m args below meth c s₁ Bd hml0 hP hK
  obtain ⟨rfl, hZ, hh⟩ := hP
  have hx := Bd.exec
  have hby := Bd.bytes
  have hml : c.maxLocals = 2 := hml0
  have hown : s.vm.findClass "com/example/nextkey/nextkey/lock/LockKind" = some m.cls := findClass_of_methodNamed Bd.named
  have hnm := (name_of_methodNamed Bd.named Bd.method).1
  have X0 : Stand p l e ({ frames := 0, cells := 0, slots := 0, locals := 0 } : Room) s m #[(.ref (w 0)), (.ref (w 1))] below meth c s₁ [] 0 0 := Stand.of_body Bd
  have e0 : s₁.heap = h0 := by rw [← hh, Bd.state]; rfl
  have N0 := Fr.nil n0
  refine Goes.out (Goes.by (fun tz kz => castTop (ef3_RR m ((w 0)) ((w 1))) kz) ?_)
  show Goes p e below (s₁.setTop (mkF m 0 #[.val (.ref (w 0)), .val (.ref (w 1))] [])) _
  refine Goes.by (fun _ kz => XS.aloadN X0.here hx rfl (hb hby d3_0) rfl rfl kz) ?_
  obtain ⟨T29, X29, e29, st29⟩ := getS2 X0 hx hZ hown (host := "") (Or.inl (hw _ (List.mem_of_getElem? (i := 18) rfl))) Via.refl e0 P.2.2.2.2.1 (g := (mkF m 1 #[.val (.ref (w 0)), .val (.ref (w 1))] [(.ref (w 1))])) rfl (hb hby d3_1)
  refine Goes.by st29 ?_
  refine Goes.by (fun _ kz => Jvm.RoadKit.acmp (g := (mkF m 4 #[.val (.ref (w 0)), .val (.ref (w 1))] [(.ref (w 2)), (.ref (w 1))])) X29 hx rfl rfl rfl (pc0 := 4) (pc' := 7) (same := false) rfl (hb hby d3_4) rfl (decide_eq_false fun q => (own_ne_1_2 P) (Value.ref.inj q)) (by decide) (by decide) (XS.aloadN X29.here hx rfl (hb hby d3_7) rfl rfl (XS.aloadN X29.here hx rfl (hb hby d3_8) rfl rfl kz))) ?_
  show Goes p e below (T29.setTop (mkF m 9 #[.val (.ref (w 0)), .val (.ref (w 1))] [(.ref (w 1)), (.ref (w 0))])) _
  refine Goes.by (fun _ kz => Jvm.RoadKit.acmp (g := (mkF m 9 #[.val (.ref (w 0)), .val (.ref (w 1))] [(.ref (w 1)), (.ref (w 0))])) X29 hx rfl rfl rfl (pc0 := 9) (pc' := 12) (same := false) rfl (hb hby d3_9) rfl (decide_eq_false fun q => (Ne.symm (own_ne_1_0 P)) (Value.ref.inj q)) (by decide) (by decide) (XS.aloadN X29.here hx rfl (hb hby d3_12) rfl rfl kz)) ?_
  obtain ⟨T30, X30, e30, st30⟩ := getS2 X29 hx hZ hown (host := "") (Or.inl (hw _ (List.mem_of_getElem? (i := 20) rfl))) Via.refl e29 P.2.2.1 (g := (mkF m 13 #[.val (.ref (w 0)), .val (.ref (w 1))] [(.ref (w 0))])) rfl (hb hby d3_13)
  refine Goes.by st30 ?_
  refine Goes.by (fun _ kz => Jvm.RoadKit.acmp (g := (mkF m 16 #[.val (.ref (w 0)), .val (.ref (w 1))] [(.ref (w 1)), (.ref (w 0))])) X30 hx rfl rfl rfl (pc0 := 16) (pc' := 30) (same := false) rfl (hb hby d3_16) rfl (decide_eq_false fun q => (Ne.symm (own_ne_1_0 P)) (Value.ref.inj q)) (by decide) (by decide) (XS.iconst X30.here hx rfl (hb hby d3_30) kz)) ?_
  show Goes p e below (T30.setTop (mkF m 31 #[.val (.ref (w 0)), .val (.ref (w 1))] [(.int (0 : Int32))])) _
  obtain ⟨fs, hr, hrun, hended, hW, hsame⟩ := X30.leave (v := some (.int (0 : Int32))) (fun h => by rw [Bd.returns] at h; cases h)
  exact ⟨_, _, retN X30 hx (t := .boolean) Bd.returns (by simp) (hb hby d3_31) hr, hrun, hended, _, _, rfl, ⟨rfl, N0, e30⟩, ⟨_, rfl⟩, hW, hsame.mono (by decide) (by decide)⟩
set_option maxRecDepth 65536 in
set_option maxHeartbeats 40000000 in
theorem r1_12 (l : Launch) (Z : State) (a0 : Array Value) (hw : ∀ d ∈ tables_1, d.before a0 Z = true) (ws : List Jvm.Cond) (h0 : Heap) (n0 : Nat) (Z0 : n0 ≤ h0.size) (w : Nat → Addr) (P : Pins Z h0 w) :
    MetFree l (⟨"com/example/nextkey/nextkey/lock/LockKindCoversPinLaw", "kind", "(I)Lcom/example/nextkey/nextkey/lock/LockKind;"⟩ : MethodName) (head1 (Jvm.Cond.code (⟨"com/example/nextkey/nextkey/lock/LockKindCoversPinLaw", "kind", "(I)Lcom/example/nextkey/nextkey/lock/LockKind;"⟩ : MethodName) method_2_code 1 (some (.object "com/example/nextkey/nextkey/lock/LockKind")) :: ws) ({ frames := 0, cells := 0, slots := 0, locals := 0 } : Room)) (fun a U => a = #[(.int (4 : Int32))] ∧ Z.Warmed39 U.vm ∧ U.heap = h0) (fun _ _ _ _ _ => True) (fun _ U o U' => ∃ v L, o = .returned v ∧ QP (some (.ref (w 2))) h0 n0 v U'.heap L ∧ FrameEnd U o U' L ({ frames := 0, cells := 0, slots := 0, locals := 0 } : Room).cells ({ frames := 0, cells := 0, slots := 0, locals := 0 } : Room).slots) := by
  refine MetFree.of_bodySF (plainFor_of_name pn0) hisR ?_
  intro p e s m args below meth c s₁ Bd hml0 hP hK
  obtain ⟨rfl, hZ, hh⟩ := hP
  have hx := Bd.exec
  have hby := Bd.bytes
  have hml : c.maxLocals = 1 := hml0
  have hown : s.vm.findClass "com/example/nextkey/nextkey/lock/LockKindCoversPinLaw" = some m.cls := findClass_of_methodNamed Bd.named
  have hnm := (name_of_methodNamed Bd.named Bd.method).1
  have X0 : Stand p l e ({ frames := 0, cells := 0, slots := 0, locals := 0 } : Room) s m #[(.int (4 : Int32))] below meth c s₁ [] 0 0 := Stand.of_body Bd
  have e0 : s₁.heap = h0 := by rw [← hh, Bd.state]; rfl
  have N0 := Fr.nil n0
  refine Goes.out (Goes.by (fun tz kz => castTop (ef1_I m ((4 : Int32))) kz) ?_)
  show Goes p e below (s₁.setTop (mkF m 0 #[.val (.int (4 : Int32))] [])) _
  refine Goes.by (fun _ kz => XS.iloadN X0.here hx rfl (hb hby d1_0) rfl (XS.ifYes X0.here hx rfl (pc0 := 1) (pc' := 8) rfl (hb hby d1_1) rfl ((if0 _ _).trans (feq (by decide : ¬ ((4 : Int32) = (0 : Int32)))).2) (by decide) (by decide) (XS.iloadN X0.here hx rfl (hb hby d1_8) rfl kz))) ?_
  show Goes p e below (s₁.setTop (mkF m 9 #[.val (.int (4 : Int32))] [(.int (4 : Int32))])) _
  refine Goes.by (fun _ kz => XS.iconst X0.here hx rfl (hb hby d1_9) (XS.icmpYes X0.here hx rfl (pc0 := 10) (pc' := 17) rfl (hb hby d1_10) rfl (feq (by decide : ¬ ((4 : Int32) = (1 : Int32)))).2 (by decide) (by decide) (XS.iloadN X0.here hx rfl (hb hby d1_17) rfl kz))) ?_
  show Goes p e below (s₁.setTop (mkF m 18 #[.val (.int (4 : Int32))] [(.int (4 : Int32))])) _
  refine Goes.by (fun _ kz => XS.iconst X0.here hx rfl (hb hby d1_18) (XS.icmpYes X0.here hx rfl (pc0 := 19) (pc' := 26) rfl (hb hby d1_19) rfl (feq (by decide : ¬ ((4 : Int32) = (2 : Int32)))).2 (by decide) (by decide) (XS.iloadN X0.here hx rfl (hb hby d1_26) rfl kz))) ?_
  show Goes p e below (s₁.setTop (mkF m 27 #[.val (.int (4 : Int32))] [(.int (4 : Int32))])) _
  refine Goes.by (fun _ kz => XS.iconst X0.here hx rfl (hb hby d1_27) (XS.icmpYes X0.here hx rfl (pc0 := 28) (pc' := 35) rfl (hb hby d1_28) rfl (feq (by decide : ¬ ((4 : Int32) = (3 : Int32)))).2 (by decide) (by decide) kz)) ?_
  obtain ⟨T33, X33, e33, st33⟩ := getS2 X0 hx hZ hown (host := "") (Or.inl (hw _ (List.mem_of_getElem? (i := 21) rfl))) Via.refl e0 P.2.2.2.2.1 (g := (mkF m 35 #[.val (.int (4 : Int32))] [])) rfl (hb hby d1_35)
  refine Goes.by st33 ?_
  show Goes p e below (T33.setTop (mkF m 38 #[.val (.int (4 : Int32))] [(.ref (w 2))])) _
  obtain ⟨fs, hr, hrun, hended, hW, hsame⟩ := X33.leave (v := some (.ref (w 2))) (fun h => by rw [Bd.returns] at h; cases h)
  exact ⟨_, _, retOut X33 hx (t := (.object "com/example/nextkey/nextkey/lock/LockKind")) Bd.returns rfl (Or.inr (Or.inr (Or.inr (Or.inr ⟨rfl, rfl, rfl⟩)))) (hb hby d1_38) hr, hrun, hended, _, _, rfl, ⟨rfl, N0, e33⟩, ⟨_, rfl⟩, hW, hsame.mono (by decide) (by decide)⟩
set_option maxRecDepth 65536 in
set_option maxHeartbeats 40000000 in
theorem r3_13 (l : Launch) (Z : State) (a0 : Array Value) (hw : ∀ d ∈ tables_1, d.before a0 Z = true) (ws : List Jvm.Cond) (h0 : Heap) (n0 : Nat) (Z0 : n0 ≤ h0.size) (w : Nat → Addr) (P : Pins Z h0 w) :
    MetFree l (⟨"com/example/nextkey/nextkey/lock/LockKind", "covers", "(Lcom/example/nextkey/nextkey/lock/LockKind;)Z"⟩ : MethodName) (head1 (Jvm.Cond.code (⟨"com/example/nextkey/nextkey/lock/LockKind", "covers", "(Lcom/example/nextkey/nextkey/lock/LockKind;)Z"⟩ : MethodName) prog_11_method_7_code 2 (some .boolean) :: ws) ({ frames := 0, cells := 0, slots := 0, locals := 0 } : Room)) (fun a U => a = #[(.ref (w 0)), (.ref (w 2))] ∧ Z.Warmed39 U.vm ∧ U.heap = h0) (fun _ _ _ _ _ => True) (fun _ U o U' => ∃ v L, o = .returned v ∧ QP (some (.int (0 : Int32))) h0 n0 v U'.heap L ∧ FrameEnd U o U' L ({ frames := 0, cells := 0, slots := 0, locals := 0 } : Room).cells ({ frames := 0, cells := 0, slots := 0, locals := 0 } : Room).slots) := by
  refine MetFree.of_bodySF (plainFor_of_name pn1) hisR ?_
  intro p e s m args below meth c s₁ Bd hml0 hP hK
  obtain ⟨rfl, hZ, hh⟩ := hP
  have hx := Bd.exec
  have hby := Bd.bytes
  have hml : c.maxLocals = 2 := hml0
  have hown : s.vm.findClass "com/example/nextkey/nextkey/lock/LockKind" = some m.cls := findClass_of_methodNamed Bd.named
  have hnm := (name_of_methodNamed Bd.named Bd.method).1
  have X0 : Stand p l e ({ frames := 0, cells := 0, slots := 0, locals := 0 } : Room) s m #[(.ref (w 0)), (.ref (w 2))] below meth c s₁ [] 0 0 := Stand.of_body Bd
  have e0 : s₁.heap = h0 := by rw [← hh, Bd.state]; rfl
  have N0 := Fr.nil n0
  refine Goes.out (Goes.by (fun tz kz => castTop (ef3_RR m ((w 0)) ((w 2))) kz) ?_)
  show Goes p e below (s₁.setTop (mkF m 0 #[.val (.ref (w 0)), .val (.ref (w 2))] [])) _
  refine Goes.by (fun _ kz => XS.aloadN X0.here hx rfl (hb hby d3_0) rfl rfl kz) ?_
  obtain ⟨T35, X35, e35, st35⟩ := getS2 X0 hx hZ hown (host := "") (Or.inl (hw _ (List.mem_of_getElem? (i := 18) rfl))) Via.refl e0 P.2.2.2.2.1 (g := (mkF m 1 #[.val (.ref (w 0)), .val (.ref (w 2))] [(.ref (w 2))])) rfl (hb hby d3_1)
  refine Goes.by st35 ?_
  refine Goes.by (fun _ kz => Jvm.RoadKit.acmp (g := (mkF m 4 #[.val (.ref (w 0)), .val (.ref (w 2))] [(.ref (w 2)), (.ref (w 2))])) X35 hx rfl rfl rfl (pc0 := 4) (pc' := 30) (same := true) rfl (hb hby d3_4) rfl (decide_eq_true rfl) (by decide) (by decide) (XS.iconst X35.here hx rfl (hb hby d3_30) kz)) ?_
  show Goes p e below (T35.setTop (mkF m 31 #[.val (.ref (w 0)), .val (.ref (w 2))] [(.int (0 : Int32))])) _
  obtain ⟨fs, hr, hrun, hended, hW, hsame⟩ := X35.leave (v := some (.int (0 : Int32))) (fun h => by rw [Bd.returns] at h; cases h)
  exact ⟨_, _, retN X35 hx (t := .boolean) Bd.returns (by simp) (hb hby d3_31) hr, hrun, hended, _, _, rfl, ⟨rfl, N0, e35⟩, ⟨_, rfl⟩, hW, hsame.mono (by decide) (by decide)⟩
set_option maxRecDepth 65536 in
set_option maxHeartbeats 40000000 in
theorem r3_14 (l : Launch) (Z : State) (a0 : Array Value) (hw : ∀ d ∈ tables_1, d.before a0 Z = true) (ws : List Jvm.Cond) (h0 : Heap) (n0 : Nat) (Z0 : n0 ≤ h0.size) (w : Nat → Addr) (P : Pins Z h0 w) :
    MetFree l (⟨"com/example/nextkey/nextkey/lock/LockKind", "covers", "(Lcom/example/nextkey/nextkey/lock/LockKind;)Z"⟩ : MethodName) (head1 (Jvm.Cond.code (⟨"com/example/nextkey/nextkey/lock/LockKind", "covers", "(Lcom/example/nextkey/nextkey/lock/LockKind;)Z"⟩ : MethodName) prog_11_method_7_code 2 (some .boolean) :: ws) ({ frames := 0, cells := 0, slots := 0, locals := 0 } : Room)) (fun a U => a = #[(.ref (w 3)), (.ref (w 0))] ∧ Z.Warmed39 U.vm ∧ U.heap = h0) (fun _ _ _ _ _ => True) (fun _ U o U' => ∃ v L, o = .returned v ∧ QP (some (.int (0 : Int32))) h0 n0 v U'.heap L ∧ FrameEnd U o U' L ({ frames := 0, cells := 0, slots := 0, locals := 0 } : Room).cells ({ frames := 0, cells := 0, slots := 0, locals := 0 } : Room).slots) := by
  refine MetFree.of_bodySF (plainFor_of_name pn1) hisR ?_
  intro p e s m args below meth c s₁ Bd hml0 hP hK
  obtain ⟨rfl, hZ, hh⟩ := hP
  have hx := Bd.exec
  have hby := Bd.bytes
  have hml : c.maxLocals = 2 := hml0
  have hown : s.vm.findClass "com/example/nextkey/nextkey/lock/LockKind" = some m.cls := findClass_of_methodNamed Bd.named
  have hnm := (name_of_methodNamed Bd.named Bd.method).1
  have X0 : Stand p l e ({ frames := 0, cells := 0, slots := 0, locals := 0 } : Room) s m #[(.ref (w 3)), (.ref (w 0))] below meth c s₁ [] 0 0 := Stand.of_body Bd
  have e0 : s₁.heap = h0 := by rw [← hh, Bd.state]; rfl
  have N0 := Fr.nil n0
  refine Goes.out (Goes.by (fun tz kz => castTop (ef3_RR m ((w 3)) ((w 0))) kz) ?_)
  show Goes p e below (s₁.setTop (mkF m 0 #[.val (.ref (w 3)), .val (.ref (w 0))] [])) _
  refine Goes.by (fun _ kz => XS.aloadN X0.here hx rfl (hb hby d3_0) rfl rfl kz) ?_
  obtain ⟨T41, X41, e41, st41⟩ := getS2 X0 hx hZ hown (host := "") (Or.inl (hw _ (List.mem_of_getElem? (i := 18) rfl))) Via.refl e0 P.2.2.2.2.1 (g := (mkF m 1 #[.val (.ref (w 3)), .val (.ref (w 0))] [(.ref (w 0))])) rfl (hb hby d3_1)
  refine Goes.by st41 ?_
  refine Goes.by (fun _ kz => Jvm.RoadKit.acmp (g := (mkF m 4 #[.val (.ref (w 3)), .val (.ref (w 0))] [(.ref (w 2)), (.ref (w 0))])) X41 hx rfl rfl rfl (pc0 := 4) (pc' := 7) (same := false) rfl (hb hby d3_4) rfl (decide_eq_false fun q => (Ne.symm (own_ne_2_0 P)) (Value.ref.inj q)) (by decide) (by decide) (XS.aloadN X41.here hx rfl (hb hby d3_7) rfl rfl (XS.aloadN X41.here hx rfl (hb hby d3_8) rfl rfl kz))) ?_
  show Goes p e below (T41.setTop (mkF m 9 #[.val (.ref (w 3)), .val (.ref (w 0))] [(.ref (w 0)), (.ref (w 3))])) _
  refine Goes.by (fun _ kz => Jvm.RoadKit.acmp (g := (mkF m 9 #[.val (.ref (w 3)), .val (.ref (w 0))] [(.ref (w 0)), (.ref (w 3))])) X41 hx rfl rfl rfl (pc0 := 9) (pc' := 12) (same := false) rfl (hb hby d3_9) rfl (decide_eq_false fun q => (Ne.symm (own_ne_0_3 P)) (Value.ref.inj q)) (by decide) (by decide) (XS.aloadN X41.here hx rfl (hb hby d3_12) rfl rfl kz)) ?_
  obtain ⟨T42, X42, e42, st42⟩ := getS2 X41 hx hZ hown (host := "") (Or.inl (hw _ (List.mem_of_getElem? (i := 20) rfl))) Via.refl e41 P.2.2.1 (g := (mkF m 13 #[.val (.ref (w 3)), .val (.ref (w 0))] [(.ref (w 3))])) rfl (hb hby d3_13)
  refine Goes.by st42 ?_
  refine Goes.by (fun _ kz => Jvm.RoadKit.acmp (g := (mkF m 16 #[.val (.ref (w 3)), .val (.ref (w 0))] [(.ref (w 1)), (.ref (w 3))])) X42 hx rfl rfl rfl (pc0 := 16) (pc' := 30) (same := false) rfl (hb hby d3_16) rfl (decide_eq_false fun q => (Ne.symm (own_ne_1_3 P)) (Value.ref.inj q)) (by decide) (by decide) (XS.iconst X42.here hx rfl (hb hby d3_30) kz)) ?_
  show Goes p e below (T42.setTop (mkF m 31 #[.val (.ref (w 3)), .val (.ref (w 0))] [(.int (0 : Int32))])) _
  obtain ⟨fs, hr, hrun, hended, hW, hsame⟩ := X42.leave (v := some (.int (0 : Int32))) (fun h => by rw [Bd.returns] at h; cases h)
  exact ⟨_, _, retN X42 hx (t := .boolean) Bd.returns (by simp) (hb hby d3_31) hr, hrun, hended, _, _, rfl, ⟨rfl, N0, e42⟩, ⟨_, rfl⟩, hW, hsame.mono (by decide) (by decide)⟩
set_option maxRecDepth 65536 in
set_option maxHeartbeats 40000000 in
theorem r3_15 (l : Launch) (Z : State) (a0 : Array Value) (hw : ∀ d ∈ tables_1, d.before a0 Z = true) (ws : List Jvm.Cond) (h0 : Heap) (n0 : Nat) (Z0 : n0 ≤ h0.size) (w : Nat → Addr) (P : Pins Z h0 w) :
    MetFree l (⟨"com/example/nextkey/nextkey/lock/LockKind", "covers", "(Lcom/example/nextkey/nextkey/lock/LockKind;)Z"⟩ : MethodName) (head1 (Jvm.Cond.code (⟨"com/example/nextkey/nextkey/lock/LockKind", "covers", "(Lcom/example/nextkey/nextkey/lock/LockKind;)Z"⟩ : MethodName) prog_11_method_7_code 2 (some .boolean) :: ws) ({ frames := 0, cells := 0, slots := 0, locals := 0 } : Room)) (fun a U => a = #[(.ref (w 3)), (.ref (w 3))] ∧ Z.Warmed39 U.vm ∧ U.heap = h0) (fun _ _ _ _ _ => True) (fun _ U o U' => ∃ v L, o = .returned v ∧ QP (some (.int (1 : Int32))) h0 n0 v U'.heap L ∧ FrameEnd U o U' L ({ frames := 0, cells := 0, slots := 0, locals := 0 } : Room).cells ({ frames := 0, cells := 0, slots := 0, locals := 0 } : Room).slots) := by
  refine MetFree.of_bodySF (plainFor_of_name pn1) hisR ?_
  intro p e s m args below meth c s₁ Bd hml0 hP hK
  obtain ⟨rfl, hZ, hh⟩ := hP
  have hx := Bd.exec
  have hby := Bd.bytes
  have hml : c.maxLocals = 2 := hml0
  have hown : s.vm.findClass "com/example/nextkey/nextkey/lock/LockKind" = some m.cls := findClass_of_methodNamed Bd.named
  have hnm := (name_of_methodNamed Bd.named Bd.method).1
  have X0 : Stand p l e ({ frames := 0, cells := 0, slots := 0, locals := 0 } : Room) s m #[(.ref (w 3)), (.ref (w 3))] below meth c s₁ [] 0 0 := Stand.of_body Bd
  have e0 : s₁.heap = h0 := by rw [← hh, Bd.state]; rfl
  have N0 := Fr.nil n0
  refine Goes.out (Goes.by (fun tz kz => castTop (ef3_RR m ((w 3)) ((w 3))) kz) ?_)
  show Goes p e below (s₁.setTop (mkF m 0 #[.val (.ref (w 3)), .val (.ref (w 3))] [])) _
  refine Goes.by (fun _ kz => XS.aloadN X0.here hx rfl (hb hby d3_0) rfl rfl kz) ?_
  obtain ⟨T48, X48, e48, st48⟩ := getS2 X0 hx hZ hown (host := "") (Or.inl (hw _ (List.mem_of_getElem? (i := 18) rfl))) Via.refl e0 P.2.2.2.2.1 (g := (mkF m 1 #[.val (.ref (w 3)), .val (.ref (w 3))] [(.ref (w 3))])) rfl (hb hby d3_1)
  refine Goes.by st48 ?_
  refine Goes.by (fun _ kz => Jvm.RoadKit.acmp (g := (mkF m 4 #[.val (.ref (w 3)), .val (.ref (w 3))] [(.ref (w 2)), (.ref (w 3))])) X48 hx rfl rfl rfl (pc0 := 4) (pc' := 7) (same := false) rfl (hb hby d3_4) rfl (decide_eq_false fun q => (Ne.symm (own_ne_2_3 P)) (Value.ref.inj q)) (by decide) (by decide) (XS.aloadN X48.here hx rfl (hb hby d3_7) rfl rfl (XS.aloadN X48.here hx rfl (hb hby d3_8) rfl rfl kz))) ?_
  show Goes p e below (T48.setTop (mkF m 9 #[.val (.ref (w 3)), .val (.ref (w 3))] [(.ref (w 3)), (.ref (w 3))])) _
  refine Goes.by (fun _ kz => Jvm.RoadKit.acmp (g := (mkF m 9 #[.val (.ref (w 3)), .val (.ref (w 3))] [(.ref (w 3)), (.ref (w 3))])) X48 hx rfl rfl rfl (pc0 := 9) (pc' := 26) (same := true) rfl (hb hby d3_9) rfl (decide_eq_true rfl) (by decide) (by decide) (XS.iconst X48.here hx rfl (hb hby d3_26) (XS.goto X48.here hx rfl (pc0 := 27) (pc' := 31) rfl (hb hby d3_27) (by decide) (by decide) kz))) ?_
  show Goes p e below (T48.setTop (mkF m 31 #[.val (.ref (w 3)), .val (.ref (w 3))] [(.int (1 : Int32))])) _
  obtain ⟨fs, hr, hrun, hended, hW, hsame⟩ := X48.leave (v := some (.int (1 : Int32))) (fun h => by rw [Bd.returns] at h; cases h)
  exact ⟨_, _, retN X48 hx (t := .boolean) Bd.returns (by simp) (hb hby d3_31) hr, hrun, hended, _, _, rfl, ⟨rfl, N0, e48⟩, ⟨_, rfl⟩, hW, hsame.mono (by decide) (by decide)⟩
set_option maxRecDepth 65536 in
set_option maxHeartbeats 40000000 in
theorem r3_16 (l : Launch) (Z : State) (a0 : Array Value) (hw : ∀ d ∈ tables_1, d.before a0 Z = true) (ws : List Jvm.Cond) (h0 : Heap) (n0 : Nat) (Z0 : n0 ≤ h0.size) (w : Nat → Addr) (P : Pins Z h0 w) :
    MetFree l (⟨"com/example/nextkey/nextkey/lock/LockKind", "covers", "(Lcom/example/nextkey/nextkey/lock/LockKind;)Z"⟩ : MethodName) (head1 (Jvm.Cond.code (⟨"com/example/nextkey/nextkey/lock/LockKind", "covers", "(Lcom/example/nextkey/nextkey/lock/LockKind;)Z"⟩ : MethodName) prog_11_method_7_code 2 (some .boolean) :: ws) ({ frames := 0, cells := 0, slots := 0, locals := 0 } : Room)) (fun a U => a = #[(.ref (w 3)), (.ref (w 4))] ∧ Z.Warmed39 U.vm ∧ U.heap = h0) (fun _ _ _ _ _ => True) (fun _ U o U' => ∃ v L, o = .returned v ∧ QP (some (.int (0 : Int32))) h0 n0 v U'.heap L ∧ FrameEnd U o U' L ({ frames := 0, cells := 0, slots := 0, locals := 0 } : Room).cells ({ frames := 0, cells := 0, slots := 0, locals := 0 } : Room).slots) := by
  refine MetFree.of_bodySF (plainFor_of_name pn1) hisR ?_
  intro p e s m args below meth c s₁ Bd hml0 hP hK
  obtain ⟨rfl, hZ, hh⟩ := hP
  have hx := Bd.exec
  have hby := Bd.bytes
  have hml : c.maxLocals = 2 := hml0
  have hown : s.vm.findClass "com/example/nextkey/nextkey/lock/LockKind" = some m.cls := findClass_of_methodNamed Bd.named
  have hnm := (name_of_methodNamed Bd.named Bd.method).1
  have X0 : Stand p l e ({ frames := 0, cells := 0, slots := 0, locals := 0 } : Room) s m #[(.ref (w 3)), (.ref (w 4))] below meth c s₁ [] 0 0 := Stand.of_body Bd
  have e0 : s₁.heap = h0 := by rw [← hh, Bd.state]; rfl
  have N0 := Fr.nil n0
  refine Goes.out (Goes.by (fun tz kz => castTop (ef3_RR m ((w 3)) ((w 4))) kz) ?_)
  show Goes p e below (s₁.setTop (mkF m 0 #[.val (.ref (w 3)), .val (.ref (w 4))] [])) _
  refine Goes.by (fun _ kz => XS.aloadN X0.here hx rfl (hb hby d3_0) rfl rfl kz) ?_
  obtain ⟨T54, X54, e54, st54⟩ := getS2 X0 hx hZ hown (host := "") (Or.inl (hw _ (List.mem_of_getElem? (i := 18) rfl))) Via.refl e0 P.2.2.2.2.1 (g := (mkF m 1 #[.val (.ref (w 3)), .val (.ref (w 4))] [(.ref (w 4))])) rfl (hb hby d3_1)
  refine Goes.by st54 ?_
  refine Goes.by (fun _ kz => Jvm.RoadKit.acmp (g := (mkF m 4 #[.val (.ref (w 3)), .val (.ref (w 4))] [(.ref (w 2)), (.ref (w 4))])) X54 hx rfl rfl rfl (pc0 := 4) (pc' := 7) (same := false) rfl (hb hby d3_4) rfl (decide_eq_false fun q => (Ne.symm (own_ne_2_4 P)) (Value.ref.inj q)) (by decide) (by decide) (XS.aloadN X54.here hx rfl (hb hby d3_7) rfl rfl (XS.aloadN X54.here hx rfl (hb hby d3_8) rfl rfl kz))) ?_
  show Goes p e below (T54.setTop (mkF m 9 #[.val (.ref (w 3)), .val (.ref (w 4))] [(.ref (w 4)), (.ref (w 3))])) _
  refine Goes.by (fun _ kz => Jvm.RoadKit.acmp (g := (mkF m 9 #[.val (.ref (w 3)), .val (.ref (w 4))] [(.ref (w 4)), (.ref (w 3))])) X54 hx rfl rfl rfl (pc0 := 9) (pc' := 12) (same := false) rfl (hb hby d3_9) rfl (decide_eq_false fun q => (own_ne_3_4 P) (Value.ref.inj q)) (by decide) (by decide) (XS.aloadN X54.here hx rfl (hb hby d3_12) rfl rfl kz)) ?_
  obtain ⟨T55, X55, e55, st55⟩ := getS2 X54 hx hZ hown (host := "") (Or.inl (hw _ (List.mem_of_getElem? (i := 20) rfl))) Via.refl e54 P.2.2.1 (g := (mkF m 13 #[.val (.ref (w 3)), .val (.ref (w 4))] [(.ref (w 3))])) rfl (hb hby d3_13)
  refine Goes.by st55 ?_
  refine Goes.by (fun _ kz => Jvm.RoadKit.acmp (g := (mkF m 16 #[.val (.ref (w 3)), .val (.ref (w 4))] [(.ref (w 1)), (.ref (w 3))])) X55 hx rfl rfl rfl (pc0 := 16) (pc' := 30) (same := false) rfl (hb hby d3_16) rfl (decide_eq_false fun q => (Ne.symm (own_ne_1_3 P)) (Value.ref.inj q)) (by decide) (by decide) (XS.iconst X55.here hx rfl (hb hby d3_30) kz)) ?_
  show Goes p e below (T55.setTop (mkF m 31 #[.val (.ref (w 3)), .val (.ref (w 4))] [(.int (0 : Int32))])) _
  obtain ⟨fs, hr, hrun, hended, hW, hsame⟩ := X55.leave (v := some (.int (0 : Int32))) (fun h => by rw [Bd.returns] at h; cases h)
  exact ⟨_, _, retN X55 hx (t := .boolean) Bd.returns (by simp) (hb hby d3_31) hr, hrun, hended, _, _, rfl, ⟨rfl, N0, e55⟩, ⟨_, rfl⟩, hW, hsame.mono (by decide) (by decide)⟩
set_option maxRecDepth 65536 in
set_option maxHeartbeats 40000000 in
theorem r3_17 (l : Launch) (Z : State) (a0 : Array Value) (hw : ∀ d ∈ tables_1, d.before a0 Z = true) (ws : List Jvm.Cond) (h0 : Heap) (n0 : Nat) (Z0 : n0 ≤ h0.size) (w : Nat → Addr) (P : Pins Z h0 w) :
    MetFree l (⟨"com/example/nextkey/nextkey/lock/LockKind", "covers", "(Lcom/example/nextkey/nextkey/lock/LockKind;)Z"⟩ : MethodName) (head1 (Jvm.Cond.code (⟨"com/example/nextkey/nextkey/lock/LockKind", "covers", "(Lcom/example/nextkey/nextkey/lock/LockKind;)Z"⟩ : MethodName) prog_11_method_7_code 2 (some .boolean) :: ws) ({ frames := 0, cells := 0, slots := 0, locals := 0 } : Room)) (fun a U => a = #[(.ref (w 3)), (.ref (w 1))] ∧ Z.Warmed39 U.vm ∧ U.heap = h0) (fun _ _ _ _ _ => True) (fun _ U o U' => ∃ v L, o = .returned v ∧ QP (some (.int (0 : Int32))) h0 n0 v U'.heap L ∧ FrameEnd U o U' L ({ frames := 0, cells := 0, slots := 0, locals := 0 } : Room).cells ({ frames := 0, cells := 0, slots := 0, locals := 0 } : Room).slots) := by
  refine MetFree.of_bodySF (plainFor_of_name pn1) hisR ?_
  intro p e s m args below meth c s₁ Bd hml0 hP hK
  obtain ⟨rfl, hZ, hh⟩ := hP
  have hx := Bd.exec
  have hby := Bd.bytes
  have hml : c.maxLocals = 2 := hml0
  have hown : s.vm.findClass "com/example/nextkey/nextkey/lock/LockKind" = some m.cls := findClass_of_methodNamed Bd.named
  have hnm := (name_of_methodNamed Bd.named Bd.method).1
  have X0 : Stand p l e ({ frames := 0, cells := 0, slots := 0, locals := 0 } : Room) s m #[(.ref (w 3)), (.ref (w 1))] below meth c s₁ [] 0 0 := Stand.of_body Bd
  have e0 : s₁.heap = h0 := by rw [← hh, Bd.state]; rfl
  have N0 := Fr.nil n0
  refine Goes.out (Goes.by (fun tz kz => castTop (ef3_RR m ((w 3)) ((w 1))) kz) ?_)
  show Goes p e below (s₁.setTop (mkF m 0 #[.val (.ref (w 3)), .val (.ref (w 1))] [])) _
  refine Goes.by (fun _ kz => XS.aloadN X0.here hx rfl (hb hby d3_0) rfl rfl kz) ?_
  obtain ⟨T61, X61, e61, st61⟩ := getS2 X0 hx hZ hown (host := "") (Or.inl (hw _ (List.mem_of_getElem? (i := 18) rfl))) Via.refl e0 P.2.2.2.2.1 (g := (mkF m 1 #[.val (.ref (w 3)), .val (.ref (w 1))] [(.ref (w 1))])) rfl (hb hby d3_1)
  refine Goes.by st61 ?_
  refine Goes.by (fun _ kz => Jvm.RoadKit.acmp (g := (mkF m 4 #[.val (.ref (w 3)), .val (.ref (w 1))] [(.ref (w 2)), (.ref (w 1))])) X61 hx rfl rfl rfl (pc0 := 4) (pc' := 7) (same := false) rfl (hb hby d3_4) rfl (decide_eq_false fun q => (own_ne_1_2 P) (Value.ref.inj q)) (by decide) (by decide) (XS.aloadN X61.here hx rfl (hb hby d3_7) rfl rfl (XS.aloadN X61.here hx rfl (hb hby d3_8) rfl rfl kz))) ?_
  show Goes p e below (T61.setTop (mkF m 9 #[.val (.ref (w 3)), .val (.ref (w 1))] [(.ref (w 1)), (.ref (w 3))])) _
  refine Goes.by (fun _ kz => Jvm.RoadKit.acmp (g := (mkF m 9 #[.val (.ref (w 3)), .val (.ref (w 1))] [(.ref (w 1)), (.ref (w 3))])) X61 hx rfl rfl rfl (pc0 := 9) (pc' := 12) (same := false) rfl (hb hby d3_9) rfl (decide_eq_false fun q => (Ne.symm (own_ne_1_3 P)) (Value.ref.inj q)) (by decide) (by decide) (XS.aloadN X61.here hx rfl (hb hby d3_12) rfl rfl kz)) ?_
  obtain ⟨T62, X62, e62, st62⟩ := getS2 X61 hx hZ hown (host := "") (Or.inl (hw _ (List.mem_of_getElem? (i := 20) rfl))) Via.refl e61 P.2.2.1 (g := (mkF m 13 #[.val (.ref (w 3)), .val (.ref (w 1))] [(.ref (w 3))])) rfl (hb hby d3_13)
  refine Goes.by st62 ?_
  refine Goes.by (fun _ kz => Jvm.RoadKit.acmp (g := (mkF m 16 #[.val (.ref (w 3)), .val (.ref (w 1))] [(.ref (w 1)), (.ref (w 3))])) X62 hx rfl rfl rfl (pc0 := 16) (pc' := 30) (same := false) rfl (hb hby d3_16) rfl (decide_eq_false fun q => (Ne.symm (own_ne_1_3 P)) (Value.ref.inj q)) (by decide) (by decide) (XS.iconst X62.here hx rfl (hb hby d3_30) kz)) ?_
  show Goes p e below (T62.setTop (mkF m 31 #[.val (.ref (w 3)), .val (.ref (w 1))] [(.int (0 : Int32))])) _
  obtain ⟨fs, hr, hrun, hended, hW, hsame⟩ := X62.leave (v := some (.int (0 : Int32))) (fun h => by rw [Bd.returns] at h; cases h)
  exact ⟨_, _, retN X62 hx (t := .boolean) Bd.returns (by simp) (hb hby d3_31) hr, hrun, hended, _, _, rfl, ⟨rfl, N0, e62⟩, ⟨_, rfl⟩, hW, hsame.mono (by decide) (by decide)⟩
set_option maxRecDepth 65536 in
set_option maxHeartbeats 40000000 in
theorem r3_18 (l : Launch) (Z : State) (a0 : Array Value) (hw : ∀ d ∈ tables_1, d.before a0 Z = true) (ws : List Jvm.Cond) (h0 : Heap) (n0 : Nat) (Z0 : n0 ≤ h0.size) (w : Nat → Addr) (P : Pins Z h0 w) :
    MetFree l (⟨"com/example/nextkey/nextkey/lock/LockKind", "covers", "(Lcom/example/nextkey/nextkey/lock/LockKind;)Z"⟩ : MethodName) (head1 (Jvm.Cond.code (⟨"com/example/nextkey/nextkey/lock/LockKind", "covers", "(Lcom/example/nextkey/nextkey/lock/LockKind;)Z"⟩ : MethodName) prog_11_method_7_code 2 (some .boolean) :: ws) ({ frames := 0, cells := 0, slots := 0, locals := 0 } : Room)) (fun a U => a = #[(.ref (w 3)), (.ref (w 2))] ∧ Z.Warmed39 U.vm ∧ U.heap = h0) (fun _ _ _ _ _ => True) (fun _ U o U' => ∃ v L, o = .returned v ∧ QP (some (.int (0 : Int32))) h0 n0 v U'.heap L ∧ FrameEnd U o U' L ({ frames := 0, cells := 0, slots := 0, locals := 0 } : Room).cells ({ frames := 0, cells := 0, slots := 0, locals := 0 } : Room).slots) := by
  refine MetFree.of_bodySF (plainFor_of_name pn1) hisR ?_
  intro p e s m args below meth c s₁ Bd hml0 hP hK
  obtain ⟨rfl, hZ, hh⟩ := hP
  have hx := Bd.exec
  have hby := Bd.bytes
  have hml : c.maxLocals = 2 := hml0
  have hown : s.vm.findClass "com/example/nextkey/nextkey/lock/LockKind" = some m.cls := findClass_of_methodNamed Bd.named
  have hnm := (name_of_methodNamed Bd.named Bd.method).1
  have X0 : Stand p l e ({ frames := 0, cells := 0, slots := 0, locals := 0 } : Room) s m #[(.ref (w 3)), (.ref (w 2))] below meth c s₁ [] 0 0 := Stand.of_body Bd
  have e0 : s₁.heap = h0 := by rw [← hh, Bd.state]; rfl
  have N0 := Fr.nil n0
  refine Goes.out (Goes.by (fun tz kz => castTop (ef3_RR m ((w 3)) ((w 2))) kz) ?_)
  show Goes p e below (s₁.setTop (mkF m 0 #[.val (.ref (w 3)), .val (.ref (w 2))] [])) _
  refine Goes.by (fun _ kz => XS.aloadN X0.here hx rfl (hb hby d3_0) rfl rfl kz) ?_
  obtain ⟨T66, X66, e66, st66⟩ := getS2 X0 hx hZ hown (host := "") (Or.inl (hw _ (List.mem_of_getElem? (i := 18) rfl))) Via.refl e0 P.2.2.2.2.1 (g := (mkF m 1 #[.val (.ref (w 3)), .val (.ref (w 2))] [(.ref (w 2))])) rfl (hb hby d3_1)
  refine Goes.by st66 ?_
  refine Goes.by (fun _ kz => Jvm.RoadKit.acmp (g := (mkF m 4 #[.val (.ref (w 3)), .val (.ref (w 2))] [(.ref (w 2)), (.ref (w 2))])) X66 hx rfl rfl rfl (pc0 := 4) (pc' := 30) (same := true) rfl (hb hby d3_4) rfl (decide_eq_true rfl) (by decide) (by decide) (XS.iconst X66.here hx rfl (hb hby d3_30) kz)) ?_
  show Goes p e below (T66.setTop (mkF m 31 #[.val (.ref (w 3)), .val (.ref (w 2))] [(.int (0 : Int32))])) _
  obtain ⟨fs, hr, hrun, hended, hW, hsame⟩ := X66.leave (v := some (.int (0 : Int32))) (fun h => by rw [Bd.returns] at h; cases h)
  exact ⟨_, _, retN X66 hx (t := .boolean) Bd.returns (by simp) (hb hby d3_31) hr, hrun, hended, _, _, rfl, ⟨rfl, N0, e66⟩, ⟨_, rfl⟩, hW, hsame.mono (by decide) (by decide)⟩
set_option maxRecDepth 65536 in
set_option maxHeartbeats 40000000 in
theorem r3_19 (l : Launch) (Z : State) (a0 : Array Value) (hw : ∀ d ∈ tables_1, d.before a0 Z = true) (ws : List Jvm.Cond) (h0 : Heap) (n0 : Nat) (Z0 : n0 ≤ h0.size) (w : Nat → Addr) (P : Pins Z h0 w) :
    MetFree l (⟨"com/example/nextkey/nextkey/lock/LockKind", "covers", "(Lcom/example/nextkey/nextkey/lock/LockKind;)Z"⟩ : MethodName) (head1 (Jvm.Cond.code (⟨"com/example/nextkey/nextkey/lock/LockKind", "covers", "(Lcom/example/nextkey/nextkey/lock/LockKind;)Z"⟩ : MethodName) prog_11_method_7_code 2 (some .boolean) :: ws) ({ frames := 0, cells := 0, slots := 0, locals := 0 } : Room)) (fun a U => a = #[(.ref (w 4)), (.ref (w 0))] ∧ Z.Warmed39 U.vm ∧ U.heap = h0) (fun _ _ _ _ _ => True) (fun _ U o U' => ∃ v L, o = .returned v ∧ QP (some (.int (0 : Int32))) h0 n0 v U'.heap L ∧ FrameEnd U o U' L ({ frames := 0, cells := 0, slots := 0, locals := 0 } : Room).cells ({ frames := 0, cells := 0, slots := 0, locals := 0 } : Room).slots) := by
  refine MetFree.of_bodySF (plainFor_of_name pn1) hisR ?_
  intro p e s m args below meth c s₁ Bd hml0 hP hK
  obtain ⟨rfl, hZ, hh⟩ := hP
  have hx := Bd.exec
  have hby := Bd.bytes
  have hml : c.maxLocals = 2 := hml0
  have hown : s.vm.findClass "com/example/nextkey/nextkey/lock/LockKind" = some m.cls := findClass_of_methodNamed Bd.named
  have hnm := (name_of_methodNamed Bd.named Bd.method).1
  have X0 : Stand p l e ({ frames := 0, cells := 0, slots := 0, locals := 0 } : Room) s m #[(.ref (w 4)), (.ref (w 0))] below meth c s₁ [] 0 0 := Stand.of_body Bd
  have e0 : s₁.heap = h0 := by rw [← hh, Bd.state]; rfl
  have N0 := Fr.nil n0
  refine Goes.out (Goes.by (fun tz kz => castTop (ef3_RR m ((w 4)) ((w 0))) kz) ?_)
  show Goes p e below (s₁.setTop (mkF m 0 #[.val (.ref (w 4)), .val (.ref (w 0))] [])) _
  refine Goes.by (fun _ kz => XS.aloadN X0.here hx rfl (hb hby d3_0) rfl rfl kz) ?_
  obtain ⟨T72, X72, e72, st72⟩ := getS2 X0 hx hZ hown (host := "") (Or.inl (hw _ (List.mem_of_getElem? (i := 18) rfl))) Via.refl e0 P.2.2.2.2.1 (g := (mkF m 1 #[.val (.ref (w 4)), .val (.ref (w 0))] [(.ref (w 0))])) rfl (hb hby d3_1)
  refine Goes.by st72 ?_
  refine Goes.by (fun _ kz => Jvm.RoadKit.acmp (g := (mkF m 4 #[.val (.ref (w 4)), .val (.ref (w 0))] [(.ref (w 2)), (.ref (w 0))])) X72 hx rfl rfl rfl (pc0 := 4) (pc' := 7) (same := false) rfl (hb hby d3_4) rfl (decide_eq_false fun q => (Ne.symm (own_ne_2_0 P)) (Value.ref.inj q)) (by decide) (by decide) (XS.aloadN X72.here hx rfl (hb hby d3_7) rfl rfl (XS.aloadN X72.here hx rfl (hb hby d3_8) rfl rfl kz))) ?_
  show Goes p e below (T72.setTop (mkF m 9 #[.val (.ref (w 4)), .val (.ref (w 0))] [(.ref (w 0)), (.ref (w 4))])) _
  refine Goes.by (fun _ kz => Jvm.RoadKit.acmp (g := (mkF m 9 #[.val (.ref (w 4)), .val (.ref (w 0))] [(.ref (w 0)), (.ref (w 4))])) X72 hx rfl rfl rfl (pc0 := 9) (pc' := 12) (same := false) rfl (hb hby d3_9) rfl (decide_eq_false fun q => (Ne.symm (own_ne_0_4 P)) (Value.ref.inj q)) (by decide) (by decide) (XS.aloadN X72.here hx rfl (hb hby d3_12) rfl rfl kz)) ?_
  obtain ⟨T73, X73, e73, st73⟩ := getS2 X72 hx hZ hown (host := "") (Or.inl (hw _ (List.mem_of_getElem? (i := 20) rfl))) Via.refl e72 P.2.2.1 (g := (mkF m 13 #[.val (.ref (w 4)), .val (.ref (w 0))] [(.ref (w 4))])) rfl (hb hby d3_13)
  refine Goes.by st73 ?_
  refine Goes.by (fun _ kz => Jvm.RoadKit.acmp (g := (mkF m 16 #[.val (.ref (w 4)), .val (.ref (w 0))] [(.ref (w 1)), (.ref (w 4))])) X73 hx rfl rfl rfl (pc0 := 16) (pc' := 30) (same := false) rfl (hb hby d3_16) rfl (decide_eq_false fun q => (Ne.symm (own_ne_1_4 P)) (Value.ref.inj q)) (by decide) (by decide) (XS.iconst X73.here hx rfl (hb hby d3_30) kz)) ?_
  show Goes p e below (T73.setTop (mkF m 31 #[.val (.ref (w 4)), .val (.ref (w 0))] [(.int (0 : Int32))])) _
  obtain ⟨fs, hr, hrun, hended, hW, hsame⟩ := X73.leave (v := some (.int (0 : Int32))) (fun h => by rw [Bd.returns] at h; cases h)
  exact ⟨_, _, retN X73 hx (t := .boolean) Bd.returns (by simp) (hb hby d3_31) hr, hrun, hended, _, _, rfl, ⟨rfl, N0, e73⟩, ⟨_, rfl⟩, hW, hsame.mono (by decide) (by decide)⟩
set_option maxRecDepth 65536 in
set_option maxHeartbeats 40000000 in
theorem r3_20 (l : Launch) (Z : State) (a0 : Array Value) (hw : ∀ d ∈ tables_1, d.before a0 Z = true) (ws : List Jvm.Cond) (h0 : Heap) (n0 : Nat) (Z0 : n0 ≤ h0.size) (w : Nat → Addr) (P : Pins Z h0 w) :
    MetFree l (⟨"com/example/nextkey/nextkey/lock/LockKind", "covers", "(Lcom/example/nextkey/nextkey/lock/LockKind;)Z"⟩ : MethodName) (head1 (Jvm.Cond.code (⟨"com/example/nextkey/nextkey/lock/LockKind", "covers", "(Lcom/example/nextkey/nextkey/lock/LockKind;)Z"⟩ : MethodName) prog_11_method_7_code 2 (some .boolean) :: ws) ({ frames := 0, cells := 0, slots := 0, locals := 0 } : Room)) (fun a U => a = #[(.ref (w 4)), (.ref (w 3))] ∧ Z.Warmed39 U.vm ∧ U.heap = h0) (fun _ _ _ _ _ => True) (fun _ U o U' => ∃ v L, o = .returned v ∧ QP (some (.int (0 : Int32))) h0 n0 v U'.heap L ∧ FrameEnd U o U' L ({ frames := 0, cells := 0, slots := 0, locals := 0 } : Room).cells ({ frames := 0, cells := 0, slots := 0, locals := 0 } : Room).slots) := by
  refine MetFree.of_bodySF (plainFor_of_name pn1) hisR ?_
  intro p e s m args below meth c s₁ Bd hml0 hP hK
  obtain ⟨rfl, hZ, hh⟩ := hP
  have hx := Bd.exec
  have hby := Bd.bytes
  have hml : c.maxLocals = 2 := hml0
  have hown : s.vm.findClass "com/example/nextkey/nextkey/lock/LockKind" = some m.cls := findClass_of_methodNamed Bd.named
  have hnm := (name_of_methodNamed Bd.named Bd.method).1
  have X0 : Stand p l e ({ frames := 0, cells := 0, slots := 0, locals := 0 } : Room) s m #[(.ref (w 4)), (.ref (w 3))] below meth c s₁ [] 0 0 := Stand.of_body Bd
  have e0 : s₁.heap = h0 := by rw [← hh, Bd.state]; rfl
  have N0 := Fr.nil n0
  refine Goes.out (Goes.by (fun tz kz => castTop (ef3_RR m ((w 4)) ((w 3))) kz) ?_)
  show Goes p e below (s₁.setTop (mkF m 0 #[.val (.ref (w 4)), .val (.ref (w 3))] [])) _
  refine Goes.by (fun _ kz => XS.aloadN X0.here hx rfl (hb hby d3_0) rfl rfl kz) ?_
  obtain ⟨T79, X79, e79, st79⟩ := getS2 X0 hx hZ hown (host := "") (Or.inl (hw _ (List.mem_of_getElem? (i := 18) rfl))) Via.refl e0 P.2.2.2.2.1 (g := (mkF m 1 #[.val (.ref (w 4)), .val (.ref (w 3))] [(.ref (w 3))])) rfl (hb hby d3_1)
  refine Goes.by st79 ?_
  refine Goes.by (fun _ kz => Jvm.RoadKit.acmp (g := (mkF m 4 #[.val (.ref (w 4)), .val (.ref (w 3))] [(.ref (w 2)), (.ref (w 3))])) X79 hx rfl rfl rfl (pc0 := 4) (pc' := 7) (same := false) rfl (hb hby d3_4) rfl (decide_eq_false fun q => (Ne.symm (own_ne_2_3 P)) (Value.ref.inj q)) (by decide) (by decide) (XS.aloadN X79.here hx rfl (hb hby d3_7) rfl rfl (XS.aloadN X79.here hx rfl (hb hby d3_8) rfl rfl kz))) ?_
  show Goes p e below (T79.setTop (mkF m 9 #[.val (.ref (w 4)), .val (.ref (w 3))] [(.ref (w 3)), (.ref (w 4))])) _
  refine Goes.by (fun _ kz => Jvm.RoadKit.acmp (g := (mkF m 9 #[.val (.ref (w 4)), .val (.ref (w 3))] [(.ref (w 3)), (.ref (w 4))])) X79 hx rfl rfl rfl (pc0 := 9) (pc' := 12) (same := false) rfl (hb hby d3_9) rfl (decide_eq_false fun q => (Ne.symm (own_ne_3_4 P)) (Value.ref.inj q)) (by decide) (by decide) (XS.aloadN X79.here hx rfl (hb hby d3_12) rfl rfl kz)) ?_
  obtain ⟨T80, X80, e80, st80⟩ := getS2 X79 hx hZ hown (host := "") (Or.inl (hw _ (List.mem_of_getElem? (i := 20) rfl))) Via.refl e79 P.2.2.1 (g := (mkF m 13 #[.val (.ref (w 4)), .val (.ref (w 3))] [(.ref (w 4))])) rfl (hb hby d3_13)
  refine Goes.by st80 ?_
  refine Goes.by (fun _ kz => Jvm.RoadKit.acmp (g := (mkF m 16 #[.val (.ref (w 4)), .val (.ref (w 3))] [(.ref (w 1)), (.ref (w 4))])) X80 hx rfl rfl rfl (pc0 := 16) (pc' := 30) (same := false) rfl (hb hby d3_16) rfl (decide_eq_false fun q => (Ne.symm (own_ne_1_4 P)) (Value.ref.inj q)) (by decide) (by decide) (XS.iconst X80.here hx rfl (hb hby d3_30) kz)) ?_
  show Goes p e below (T80.setTop (mkF m 31 #[.val (.ref (w 4)), .val (.ref (w 3))] [(.int (0 : Int32))])) _
  obtain ⟨fs, hr, hrun, hended, hW, hsame⟩ := X80.leave (v := some (.int (0 : Int32))) (fun h => by rw [Bd.returns] at h; cases h)
  exact ⟨_, _, retN X80 hx (t := .boolean) Bd.returns (by simp) (hb hby d3_31) hr, hrun, hended, _, _, rfl, ⟨rfl, N0, e80⟩, ⟨_, rfl⟩, hW, hsame.mono (by decide) (by decide)⟩
set_option maxRecDepth 65536 in
set_option maxHeartbeats 40000000 in
theorem r3_21 (l : Launch) (Z : State) (a0 : Array Value) (hw : ∀ d ∈ tables_1, d.before a0 Z = true) (ws : List Jvm.Cond) (h0 : Heap) (n0 : Nat) (Z0 : n0 ≤ h0.size) (w : Nat → Addr) (P : Pins Z h0 w) :
    MetFree l (⟨"com/example/nextkey/nextkey/lock/LockKind", "covers", "(Lcom/example/nextkey/nextkey/lock/LockKind;)Z"⟩ : MethodName) (head1 (Jvm.Cond.code (⟨"com/example/nextkey/nextkey/lock/LockKind", "covers", "(Lcom/example/nextkey/nextkey/lock/LockKind;)Z"⟩ : MethodName) prog_11_method_7_code 2 (some .boolean) :: ws) ({ frames := 0, cells := 0, slots := 0, locals := 0 } : Room)) (fun a U => a = #[(.ref (w 4)), (.ref (w 4))] ∧ Z.Warmed39 U.vm ∧ U.heap = h0) (fun _ _ _ _ _ => True) (fun _ U o U' => ∃ v L, o = .returned v ∧ QP (some (.int (1 : Int32))) h0 n0 v U'.heap L ∧ FrameEnd U o U' L ({ frames := 0, cells := 0, slots := 0, locals := 0 } : Room).cells ({ frames := 0, cells := 0, slots := 0, locals := 0 } : Room).slots) := by
  refine MetFree.of_bodySF (plainFor_of_name pn1) hisR ?_
  intro p e s m args below meth c s₁ Bd hml0 hP hK
  obtain ⟨rfl, hZ, hh⟩ := hP
  have hx := Bd.exec
  have hby := Bd.bytes
  have hml : c.maxLocals = 2 := hml0
  have hown : s.vm.findClass "com/example/nextkey/nextkey/lock/LockKind" = some m.cls := findClass_of_methodNamed Bd.named
  have hnm := (name_of_methodNamed Bd.named Bd.method).1
  have X0 : Stand p l e ({ frames := 0, cells := 0, slots := 0, locals := 0 } : Room) s m #[(.ref (w 4)), (.ref (w 4))] below meth c s₁ [] 0 0 := Stand.of_body Bd
  have e0 : s₁.heap = h0 := by rw [← hh, Bd.state]; rfl
  have N0 := Fr.nil n0
  refine Goes.out (Goes.by (fun tz kz => castTop (ef3_RR m ((w 4)) ((w 4))) kz) ?_)
  show Goes p e below (s₁.setTop (mkF m 0 #[.val (.ref (w 4)), .val (.ref (w 4))] [])) _
  refine Goes.by (fun _ kz => XS.aloadN X0.here hx rfl (hb hby d3_0) rfl rfl kz) ?_
  obtain ⟨T86, X86, e86, st86⟩ := getS2 X0 hx hZ hown (host := "") (Or.inl (hw _ (List.mem_of_getElem? (i := 18) rfl))) Via.refl e0 P.2.2.2.2.1 (g := (mkF m 1 #[.val (.ref (w 4)), .val (.ref (w 4))] [(.ref (w 4))])) rfl (hb hby d3_1)
  refine Goes.by st86 ?_
  refine Goes.by (fun _ kz => Jvm.RoadKit.acmp (g := (mkF m 4 #[.val (.ref (w 4)), .val (.ref (w 4))] [(.ref (w 2)), (.ref (w 4))])) X86 hx rfl rfl rfl (pc0 := 4) (pc' := 7) (same := false) rfl (hb hby d3_4) rfl (decide_eq_false fun q => (Ne.symm (own_ne_2_4 P)) (Value.ref.inj q)) (by decide) (by decide) (XS.aloadN X86.here hx rfl (hb hby d3_7) rfl rfl (XS.aloadN X86.here hx rfl (hb hby d3_8) rfl rfl kz))) ?_
  show Goes p e below (T86.setTop (mkF m 9 #[.val (.ref (w 4)), .val (.ref (w 4))] [(.ref (w 4)), (.ref (w 4))])) _
  refine Goes.by (fun _ kz => Jvm.RoadKit.acmp (g := (mkF m 9 #[.val (.ref (w 4)), .val (.ref (w 4))] [(.ref (w 4)), (.ref (w 4))])) X86 hx rfl rfl rfl (pc0 := 9) (pc' := 26) (same := true) rfl (hb hby d3_9) rfl (decide_eq_true rfl) (by decide) (by decide) (XS.iconst X86.here hx rfl (hb hby d3_26) (XS.goto X86.here hx rfl (pc0 := 27) (pc' := 31) rfl (hb hby d3_27) (by decide) (by decide) kz))) ?_
  show Goes p e below (T86.setTop (mkF m 31 #[.val (.ref (w 4)), .val (.ref (w 4))] [(.int (1 : Int32))])) _
  obtain ⟨fs, hr, hrun, hended, hW, hsame⟩ := X86.leave (v := some (.int (1 : Int32))) (fun h => by rw [Bd.returns] at h; cases h)
  exact ⟨_, _, retN X86 hx (t := .boolean) Bd.returns (by simp) (hb hby d3_31) hr, hrun, hended, _, _, rfl, ⟨rfl, N0, e86⟩, ⟨_, rfl⟩, hW, hsame.mono (by decide) (by decide)⟩
set_option maxRecDepth 65536 in
set_option maxHeartbeats 40000000 in
theorem r3_22 (l : Launch) (Z : State) (a0 : Array Value) (hw : ∀ d ∈ tables_1, d.before a0 Z = true) (ws : List Jvm.Cond) (h0 : Heap) (n0 : Nat) (Z0 : n0 ≤ h0.size) (w : Nat → Addr) (P : Pins Z h0 w) :
    MetFree l (⟨"com/example/nextkey/nextkey/lock/LockKind", "covers", "(Lcom/example/nextkey/nextkey/lock/LockKind;)Z"⟩ : MethodName) (head1 (Jvm.Cond.code (⟨"com/example/nextkey/nextkey/lock/LockKind", "covers", "(Lcom/example/nextkey/nextkey/lock/LockKind;)Z"⟩ : MethodName) prog_11_method_7_code 2 (some .boolean) :: ws) ({ frames := 0, cells := 0, slots := 0, locals := 0 } : Room)) (fun a U => a = #[(.ref (w 4)), (.ref (w 1))] ∧ Z.Warmed39 U.vm ∧ U.heap = h0) (fun _ _ _ _ _ => True) (fun _ U o U' => ∃ v L, o = .returned v ∧ QP (some (.int (0 : Int32))) h0 n0 v U'.heap L ∧ FrameEnd U o U' L ({ frames := 0, cells := 0, slots := 0, locals := 0 } : Room).cells ({ frames := 0, cells := 0, slots := 0, locals := 0 } : Room).slots) := by
  refine MetFree.of_bodySF (plainFor_of_name pn1) hisR ?_
  intro p e s m args below meth c s₁ Bd hml0 hP hK
  obtain ⟨rfl, hZ, hh⟩ := hP
  have hx := Bd.exec
  have hby := Bd.bytes
  have hml : c.maxLocals = 2 := hml0
  have hown : s.vm.findClass "com/example/nextkey/nextkey/lock/LockKind" = some m.cls := findClass_of_methodNamed Bd.named
  have hnm := (name_of_methodNamed Bd.named Bd.method).1
  have X0 : Stand p l e ({ frames := 0, cells := 0, slots := 0, locals := 0 } : Room) s m #[(.ref (w 4)), (.ref (w 1))] below meth c s₁ [] 0 0 := Stand.of_body Bd
  have e0 : s₁.heap = h0 := by rw [← hh, Bd.state]; rfl
  have N0 := Fr.nil n0
  refine Goes.out (Goes.by (fun tz kz => castTop (ef3_RR m ((w 4)) ((w 1))) kz) ?_)
  show Goes p e below (s₁.setTop (mkF m 0 #[.val (.ref (w 4)), .val (.ref (w 1))] [])) _
  refine Goes.by (fun _ kz => XS.aloadN X0.here hx rfl (hb hby d3_0) rfl rfl kz) ?_
  obtain ⟨T92, X92, e92, st92⟩ := getS2 X0 hx hZ hown (host := "") (Or.inl (hw _ (List.mem_of_getElem? (i := 18) rfl))) Via.refl e0 P.2.2.2.2.1 (g := (mkF m 1 #[.val (.ref (w 4)), .val (.ref (w 1))] [(.ref (w 1))])) rfl (hb hby d3_1)
  refine Goes.by st92 ?_
  refine Goes.by (fun _ kz => Jvm.RoadKit.acmp (g := (mkF m 4 #[.val (.ref (w 4)), .val (.ref (w 1))] [(.ref (w 2)), (.ref (w 1))])) X92 hx rfl rfl rfl (pc0 := 4) (pc' := 7) (same := false) rfl (hb hby d3_4) rfl (decide_eq_false fun q => (own_ne_1_2 P) (Value.ref.inj q)) (by decide) (by decide) (XS.aloadN X92.here hx rfl (hb hby d3_7) rfl rfl (XS.aloadN X92.here hx rfl (hb hby d3_8) rfl rfl kz))) ?_
  show Goes p e below (T92.setTop (mkF m 9 #[.val (.ref (w 4)), .val (.ref (w 1))] [(.ref (w 1)), (.ref (w 4))])) _
  refine Goes.by (fun _ kz => Jvm.RoadKit.acmp (g := (mkF m 9 #[.val (.ref (w 4)), .val (.ref (w 1))] [(.ref (w 1)), (.ref (w 4))])) X92 hx rfl rfl rfl (pc0 := 9) (pc' := 12) (same := false) rfl (hb hby d3_9) rfl (decide_eq_false fun q => (Ne.symm (own_ne_1_4 P)) (Value.ref.inj q)) (by decide) (by decide) (XS.aloadN X92.here hx rfl (hb hby d3_12) rfl rfl kz)) ?_
  obtain ⟨T93, X93, e93, st93⟩ := getS2 X92 hx hZ hown (host := "") (Or.inl (hw _ (List.mem_of_getElem? (i := 20) rfl))) Via.refl e92 P.2.2.1 (g := (mkF m 13 #[.val (.ref (w 4)), .val (.ref (w 1))] [(.ref (w 4))])) rfl (hb hby d3_13)
  refine Goes.by st93 ?_
  refine Goes.by (fun _ kz => Jvm.RoadKit.acmp (g := (mkF m 16 #[.val (.ref (w 4)), .val (.ref (w 1))] [(.ref (w 1)), (.ref (w 4))])) X93 hx rfl rfl rfl (pc0 := 16) (pc' := 30) (same := false) rfl (hb hby d3_16) rfl (decide_eq_false fun q => (Ne.symm (own_ne_1_4 P)) (Value.ref.inj q)) (by decide) (by decide) (XS.iconst X93.here hx rfl (hb hby d3_30) kz)) ?_
  show Goes p e below (T93.setTop (mkF m 31 #[.val (.ref (w 4)), .val (.ref (w 1))] [(.int (0 : Int32))])) _
  obtain ⟨fs, hr, hrun, hended, hW, hsame⟩ := X93.leave (v := some (.int (0 : Int32))) (fun h => by rw [Bd.returns] at h; cases h)
  exact ⟨_, _, retN X93 hx (t := .boolean) Bd.returns (by simp) (hb hby d3_31) hr, hrun, hended, _, _, rfl, ⟨rfl, N0, e93⟩, ⟨_, rfl⟩, hW, hsame.mono (by decide) (by decide)⟩
set_option maxRecDepth 65536 in
set_option maxHeartbeats 40000000 in
theorem r3_23 (l : Launch) (Z : State) (a0 : Array Value) (hw : ∀ d ∈ tables_1, d.before a0 Z = true) (ws : List Jvm.Cond) (h0 : Heap) (n0 : Nat) (Z0 : n0 ≤ h0.size) (w : Nat → Addr) (P : Pins Z h0 w) :
    MetFree l (⟨"com/example/nextkey/nextkey/lock/LockKind", "covers", "(Lcom/example/nextkey/nextkey/lock/LockKind;)Z"⟩ : MethodName) (head1 (Jvm.Cond.code (⟨"com/example/nextkey/nextkey/lock/LockKind", "covers", "(Lcom/example/nextkey/nextkey/lock/LockKind;)Z"⟩ : MethodName) prog_11_method_7_code 2 (some .boolean) :: ws) ({ frames := 0, cells := 0, slots := 0, locals := 0 } : Room)) (fun a U => a = #[(.ref (w 4)), (.ref (w 2))] ∧ Z.Warmed39 U.vm ∧ U.heap = h0) (fun _ _ _ _ _ => True) (fun _ U o U' => ∃ v L, o = .returned v ∧ QP (some (.int (0 : Int32))) h0 n0 v U'.heap L ∧ FrameEnd U o U' L ({ frames := 0, cells := 0, slots := 0, locals := 0 } : Room).cells ({ frames := 0, cells := 0, slots := 0, locals := 0 } : Room).slots) := by
  refine MetFree.of_bodySF (plainFor_of_name pn1) hisR ?_
  intro p e s m args below meth c s₁ Bd hml0 hP hK
  obtain ⟨rfl, hZ, hh⟩ := hP
  have hx := Bd.exec
  have hby := Bd.bytes
  have hml : c.maxLocals = 2 := hml0
  have hown : s.vm.findClass "com/example/nextkey/nextkey/lock/LockKind" = some m.cls := findClass_of_methodNamed Bd.named
  have hnm := (name_of_methodNamed Bd.named Bd.method).1
  have X0 : Stand p l e ({ frames := 0, cells := 0, slots := 0, locals := 0 } : Room) s m #[(.ref (w 4)), (.ref (w 2))] below meth c s₁ [] 0 0 := Stand.of_body Bd
  have e0 : s₁.heap = h0 := by rw [← hh, Bd.state]; rfl
  have N0 := Fr.nil n0
  refine Goes.out (Goes.by (fun tz kz => castTop (ef3_RR m ((w 4)) ((w 2))) kz) ?_)
  show Goes p e below (s₁.setTop (mkF m 0 #[.val (.ref (w 4)), .val (.ref (w 2))] [])) _
  refine Goes.by (fun _ kz => XS.aloadN X0.here hx rfl (hb hby d3_0) rfl rfl kz) ?_
  obtain ⟨T97, X97, e97, st97⟩ := getS2 X0 hx hZ hown (host := "") (Or.inl (hw _ (List.mem_of_getElem? (i := 18) rfl))) Via.refl e0 P.2.2.2.2.1 (g := (mkF m 1 #[.val (.ref (w 4)), .val (.ref (w 2))] [(.ref (w 2))])) rfl (hb hby d3_1)
  refine Goes.by st97 ?_
  refine Goes.by (fun _ kz => Jvm.RoadKit.acmp (g := (mkF m 4 #[.val (.ref (w 4)), .val (.ref (w 2))] [(.ref (w 2)), (.ref (w 2))])) X97 hx rfl rfl rfl (pc0 := 4) (pc' := 30) (same := true) rfl (hb hby d3_4) rfl (decide_eq_true rfl) (by decide) (by decide) (XS.iconst X97.here hx rfl (hb hby d3_30) kz)) ?_
  show Goes p e below (T97.setTop (mkF m 31 #[.val (.ref (w 4)), .val (.ref (w 2))] [(.int (0 : Int32))])) _
  obtain ⟨fs, hr, hrun, hended, hW, hsame⟩ := X97.leave (v := some (.int (0 : Int32))) (fun h => by rw [Bd.returns] at h; cases h)
  exact ⟨_, _, retN X97 hx (t := .boolean) Bd.returns (by simp) (hb hby d3_31) hr, hrun, hended, _, _, rfl, ⟨rfl, N0, e97⟩, ⟨_, rfl⟩, hW, hsame.mono (by decide) (by decide)⟩
set_option maxRecDepth 65536 in
set_option maxHeartbeats 40000000 in
theorem r3_24 (l : Launch) (Z : State) (a0 : Array Value) (hw : ∀ d ∈ tables_1, d.before a0 Z = true) (ws : List Jvm.Cond) (h0 : Heap) (n0 : Nat) (Z0 : n0 ≤ h0.size) (w : Nat → Addr) (P : Pins Z h0 w) :
    MetFree l (⟨"com/example/nextkey/nextkey/lock/LockKind", "covers", "(Lcom/example/nextkey/nextkey/lock/LockKind;)Z"⟩ : MethodName) (head1 (Jvm.Cond.code (⟨"com/example/nextkey/nextkey/lock/LockKind", "covers", "(Lcom/example/nextkey/nextkey/lock/LockKind;)Z"⟩ : MethodName) prog_11_method_7_code 2 (some .boolean) :: ws) ({ frames := 0, cells := 0, slots := 0, locals := 0 } : Room)) (fun a U => a = #[(.ref (w 1)), (.ref (w 0))] ∧ Z.Warmed39 U.vm ∧ U.heap = h0) (fun _ _ _ _ _ => True) (fun _ U o U' => ∃ v L, o = .returned v ∧ QP (some (.int (0 : Int32))) h0 n0 v U'.heap L ∧ FrameEnd U o U' L ({ frames := 0, cells := 0, slots := 0, locals := 0 } : Room).cells ({ frames := 0, cells := 0, slots := 0, locals := 0 } : Room).slots) := by
  refine MetFree.of_bodySF (plainFor_of_name pn1) hisR ?_
  intro p e s m args below meth c s₁ Bd hml0 hP hK
  obtain ⟨rfl, hZ, hh⟩ := hP
  have hx := Bd.exec
  have hby := Bd.bytes
  have hml : c.maxLocals = 2 := hml0
  have hown : s.vm.findClass "com/example/nextkey/nextkey/lock/LockKind" = some m.cls := findClass_of_methodNamed Bd.named
  have hnm := (name_of_methodNamed Bd.named Bd.method).1
  have X0 : Stand p l e ({ frames := 0, cells := 0, slots := 0, locals := 0 } : Room) s m #[(.ref (w 1)), (.ref (w 0))] below meth c s₁ [] 0 0 := Stand.of_body Bd
  have e0 : s₁.heap = h0 := by rw [← hh, Bd.state]; rfl
  have N0 := Fr.nil n0
  refine Goes.out (Goes.by (fun tz kz => castTop (ef3_RR m ((w 1)) ((w 0))) kz) ?_)
  show Goes p e below (s₁.setTop (mkF m 0 #[.val (.ref (w 1)), .val (.ref (w 0))] [])) _
  refine Goes.by (fun _ kz => XS.aloadN X0.here hx rfl (hb hby d3_0) rfl rfl kz) ?_
  obtain ⟨T103, X103, e103, st103⟩ := getS2 X0 hx hZ hown (host := "") (Or.inl (hw _ (List.mem_of_getElem? (i := 18) rfl))) Via.refl e0 P.2.2.2.2.1 (g := (mkF m 1 #[.val (.ref (w 1)), .val (.ref (w 0))] [(.ref (w 0))])) rfl (hb hby d3_1)
  refine Goes.by st103 ?_
  refine Goes.by (fun _ kz => Jvm.RoadKit.acmp (g := (mkF m 4 #[.val (.ref (w 1)), .val (.ref (w 0))] [(.ref (w 2)), (.ref (w 0))])) X103 hx rfl rfl rfl (pc0 := 4) (pc' := 7) (same := false) rfl (hb hby d3_4) rfl (decide_eq_false fun q => (Ne.symm (own_ne_2_0 P)) (Value.ref.inj q)) (by decide) (by decide) (XS.aloadN X103.here hx rfl (hb hby d3_7) rfl rfl (XS.aloadN X103.here hx rfl (hb hby d3_8) rfl rfl kz))) ?_
  show Goes p e below (T103.setTop (mkF m 9 #[.val (.ref (w 1)), .val (.ref (w 0))] [(.ref (w 0)), (.ref (w 1))])) _
  refine Goes.by (fun _ kz => Jvm.RoadKit.acmp (g := (mkF m 9 #[.val (.ref (w 1)), .val (.ref (w 0))] [(.ref (w 0)), (.ref (w 1))])) X103 hx rfl rfl rfl (pc0 := 9) (pc' := 12) (same := false) rfl (hb hby d3_9) rfl (decide_eq_false fun q => (own_ne_1_0 P) (Value.ref.inj q)) (by decide) (by decide) (XS.aloadN X103.here hx rfl (hb hby d3_12) rfl rfl kz)) ?_
  obtain ⟨T104, X104, e104, st104⟩ := getS2 X103 hx hZ hown (host := "") (Or.inl (hw _ (List.mem_of_getElem? (i := 20) rfl))) Via.refl e103 P.2.2.1 (g := (mkF m 13 #[.val (.ref (w 1)), .val (.ref (w 0))] [(.ref (w 1))])) rfl (hb hby d3_13)
  refine Goes.by st104 ?_
  refine Goes.by (fun _ kz => Jvm.RoadKit.acmp (g := (mkF m 16 #[.val (.ref (w 1)), .val (.ref (w 0))] [(.ref (w 1)), (.ref (w 1))])) X104 hx rfl rfl rfl (pc0 := 16) (pc' := 19) (same := true) rfl (hb hby d3_16) rfl (decide_eq_true rfl) (by decide) (by decide) (XS.aloadN X104.here hx rfl (hb hby d3_19) rfl rfl kz)) ?_
  obtain ⟨T105, X105, e105, st105⟩ := getS2 X104 hx hZ hown (host := "") (Or.inl (hw _ (List.mem_of_getElem? (i := 24) rfl))) Via.refl e104 P.1 (g := (mkF m 20 #[.val (.ref (w 1)), .val (.ref (w 0))] [(.ref (w 0))])) rfl (hb hby d3_20)
  refine Goes.by st105 ?_
  refine Goes.by (fun _ kz => Jvm.RoadKit.acmp (g := (mkF m 23 #[.val (.ref (w 1)), .val (.ref (w 0))] [(.ref (w 0)), (.ref (w 0))])) X105 hx rfl rfl rfl (pc0 := 23) (pc' := 30) (same := true) rfl (hb hby d3_23) rfl (decide_eq_true rfl) (by decide) (by decide) (XS.iconst X105.here hx rfl (hb hby d3_30) kz)) ?_
  show Goes p e below (T105.setTop (mkF m 31 #[.val (.ref (w 1)), .val (.ref (w 0))] [(.int (0 : Int32))])) _
  obtain ⟨fs, hr, hrun, hended, hW, hsame⟩ := X105.leave (v := some (.int (0 : Int32))) (fun h => by rw [Bd.returns] at h; cases h)
  exact ⟨_, _, retN X105 hx (t := .boolean) Bd.returns (by simp) (hb hby d3_31) hr, hrun, hended, _, _, rfl, ⟨rfl, N0, e105⟩, ⟨_, rfl⟩, hW, hsame.mono (by decide) (by decide)⟩
set_option maxRecDepth 65536 in
set_option maxHeartbeats 40000000 in
theorem r3_25 (l : Launch) (Z : State) (a0 : Array Value) (hw : ∀ d ∈ tables_1, d.before a0 Z = true) (ws : List Jvm.Cond) (h0 : Heap) (n0 : Nat) (Z0 : n0 ≤ h0.size) (w : Nat → Addr) (P : Pins Z h0 w) :
    MetFree l (⟨"com/example/nextkey/nextkey/lock/LockKind", "covers", "(Lcom/example/nextkey/nextkey/lock/LockKind;)Z"⟩ : MethodName) (head1 (Jvm.Cond.code (⟨"com/example/nextkey/nextkey/lock/LockKind", "covers", "(Lcom/example/nextkey/nextkey/lock/LockKind;)Z"⟩ : MethodName) prog_11_method_7_code 2 (some .boolean) :: ws) ({ frames := 0, cells := 0, slots := 0, locals := 0 } : Room)) (fun a U => a = #[(.ref (w 1)), (.ref (w 3))] ∧ Z.Warmed39 U.vm ∧ U.heap = h0) (fun _ _ _ _ _ => True) (fun _ U o U' => ∃ v L, o = .returned v ∧ QP (some (.int (1 : Int32))) h0 n0 v U'.heap L ∧ FrameEnd U o U' L ({ frames := 0, cells := 0, slots := 0, locals := 0 } : Room).cells ({ frames := 0, cells := 0, slots := 0, locals := 0 } : Room).slots) := by
  refine MetFree.of_bodySF (plainFor_of_name pn1) hisR ?_
  intro p e s m args below meth c s₁ Bd hml0 hP hK
  obtain ⟨rfl, hZ, hh⟩ := hP
  have hx := Bd.exec
  have hby := Bd.bytes
  have hml : c.maxLocals = 2 := hml0
  have hown : s.vm.findClass "com/example/nextkey/nextkey/lock/LockKind" = some m.cls := findClass_of_methodNamed Bd.named
  have hnm := (name_of_methodNamed Bd.named Bd.method).1
  have X0 : Stand p l e ({ frames := 0, cells := 0, slots := 0, locals := 0 } : Room) s m #[(.ref (w 1)), (.ref (w 3))] below meth c s₁ [] 0 0 := Stand.of_body Bd
  have e0 : s₁.heap = h0 := by rw [← hh, Bd.state]; rfl
  have N0 := Fr.nil n0
  refine Goes.out (Goes.by (fun tz kz => castTop (ef3_RR m ((w 1)) ((w 3))) kz) ?_)
  show Goes p e below (s₁.setTop (mkF m 0 #[.val (.ref (w 1)), .val (.ref (w 3))] [])) _
  refine Goes.by (fun _ kz => XS.aloadN X0.here hx rfl (hb hby d3_0) rfl rfl kz) ?_
  obtain ⟨T111, X111, e111, st111⟩ := getS2 X0 hx hZ hown (host := "") (Or.inl (hw _ (List.mem_of_getElem? (i := 18) rfl))) Via.refl e0 P.2.2.2.2.1 (g := (mkF m 1 #[.val (.ref (w 1)), .val (.ref (w 3))] [(.ref (w 3))])) rfl (hb hby d3_1)
  refine Goes.by st111 ?_
  refine Goes.by (fun _ kz => Jvm.RoadKit.acmp (g := (mkF m 4 #[.val (.ref (w 1)), .val (.ref (w 3))] [(.ref (w 2)), (.ref (w 3))])) X111 hx rfl rfl rfl (pc0 := 4) (pc' := 7) (same := false) rfl (hb hby d3_4) rfl (decide_eq_false fun q => (Ne.symm (own_ne_2_3 P)) (Value.ref.inj q)) (by decide) (by decide) (XS.aloadN X111.here hx rfl (hb hby d3_7) rfl rfl (XS.aloadN X111.here hx rfl (hb hby d3_8) rfl rfl kz))) ?_
  show Goes p e below (T111.setTop (mkF m 9 #[.val (.ref (w 1)), .val (.ref (w 3))] [(.ref (w 3)), (.ref (w 1))])) _
  refine Goes.by (fun _ kz => Jvm.RoadKit.acmp (g := (mkF m 9 #[.val (.ref (w 1)), .val (.ref (w 3))] [(.ref (w 3)), (.ref (w 1))])) X111 hx rfl rfl rfl (pc0 := 9) (pc' := 12) (same := false) rfl (hb hby d3_9) rfl (decide_eq_false fun q => (own_ne_1_3 P) (Value.ref.inj q)) (by decide) (by decide) (XS.aloadN X111.here hx rfl (hb hby d3_12) rfl rfl kz)) ?_
  obtain ⟨T112, X112, e112, st112⟩ := getS2 X111 hx hZ hown (host := "") (Or.inl (hw _ (List.mem_of_getElem? (i := 20) rfl))) Via.refl e111 P.2.2.1 (g := (mkF m 13 #[.val (.ref (w 1)), .val (.ref (w 3))] [(.ref (w 1))])) rfl (hb hby d3_13)
  refine Goes.by st112 ?_
  refine Goes.by (fun _ kz => Jvm.RoadKit.acmp (g := (mkF m 16 #[.val (.ref (w 1)), .val (.ref (w 3))] [(.ref (w 1)), (.ref (w 1))])) X112 hx rfl rfl rfl (pc0 := 16) (pc' := 19) (same := true) rfl (hb hby d3_16) rfl (decide_eq_true rfl) (by decide) (by decide) (XS.aloadN X112.here hx rfl (hb hby d3_19) rfl rfl kz)) ?_
  obtain ⟨T113, X113, e113, st113⟩ := getS2 X112 hx hZ hown (host := "") (Or.inl (hw _ (List.mem_of_getElem? (i := 24) rfl))) Via.refl e112 P.1 (g := (mkF m 20 #[.val (.ref (w 1)), .val (.ref (w 3))] [(.ref (w 3))])) rfl (hb hby d3_20)
  refine Goes.by st113 ?_
  refine Goes.by (fun _ kz => Jvm.RoadKit.acmp (g := (mkF m 23 #[.val (.ref (w 1)), .val (.ref (w 3))] [(.ref (w 0)), (.ref (w 3))])) X113 hx rfl rfl rfl (pc0 := 23) (pc' := 26) (same := false) rfl (hb hby d3_23) rfl (decide_eq_false fun q => (Ne.symm (own_ne_0_3 P)) (Value.ref.inj q)) (by decide) (by decide) (XS.iconst X113.here hx rfl (hb hby d3_26) (XS.goto X113.here hx rfl (pc0 := 27) (pc' := 31) rfl (hb hby d3_27) (by decide) (by decide) kz))) ?_
  show Goes p e below (T113.setTop (mkF m 31 #[.val (.ref (w 1)), .val (.ref (w 3))] [(.int (1 : Int32))])) _
  obtain ⟨fs, hr, hrun, hended, hW, hsame⟩ := X113.leave (v := some (.int (1 : Int32))) (fun h => by rw [Bd.returns] at h; cases h)
  exact ⟨_, _, retN X113 hx (t := .boolean) Bd.returns (by simp) (hb hby d3_31) hr, hrun, hended, _, _, rfl, ⟨rfl, N0, e113⟩, ⟨_, rfl⟩, hW, hsame.mono (by decide) (by decide)⟩
set_option maxRecDepth 65536 in
set_option maxHeartbeats 40000000 in
theorem r3_26 (l : Launch) (Z : State) (a0 : Array Value) (hw : ∀ d ∈ tables_1, d.before a0 Z = true) (ws : List Jvm.Cond) (h0 : Heap) (n0 : Nat) (Z0 : n0 ≤ h0.size) (w : Nat → Addr) (P : Pins Z h0 w) :
    MetFree l (⟨"com/example/nextkey/nextkey/lock/LockKind", "covers", "(Lcom/example/nextkey/nextkey/lock/LockKind;)Z"⟩ : MethodName) (head1 (Jvm.Cond.code (⟨"com/example/nextkey/nextkey/lock/LockKind", "covers", "(Lcom/example/nextkey/nextkey/lock/LockKind;)Z"⟩ : MethodName) prog_11_method_7_code 2 (some .boolean) :: ws) ({ frames := 0, cells := 0, slots := 0, locals := 0 } : Room)) (fun a U => a = #[(.ref (w 1)), (.ref (w 4))] ∧ Z.Warmed39 U.vm ∧ U.heap = h0) (fun _ _ _ _ _ => True) (fun _ U o U' => ∃ v L, o = .returned v ∧ QP (some (.int (1 : Int32))) h0 n0 v U'.heap L ∧ FrameEnd U o U' L ({ frames := 0, cells := 0, slots := 0, locals := 0 } : Room).cells ({ frames := 0, cells := 0, slots := 0, locals := 0 } : Room).slots) := by
  refine MetFree.of_bodySF (plainFor_of_name pn1) hisR ?_
  intro p e s m args below meth c s₁ Bd hml0 hP hK
  obtain ⟨rfl, hZ, hh⟩ := hP
  have hx := Bd.exec
  have hby := Bd.bytes
  have hml : c.maxLocals = 2 := hml0
  have hown : s.vm.findClass "com/example/nextkey/nextkey/lock/LockKind" = some m.cls := findClass_of_methodNamed Bd.named
  have hnm := (name_of_methodNamed Bd.named Bd.method).1
  have X0 : Stand p l e ({ frames := 0, cells := 0, slots := 0, locals := 0 } : Room) s m #[(.ref (w 1)), (.ref (w 4))] below meth c s₁ [] 0 0 := Stand.of_body Bd
  have e0 : s₁.heap = h0 := by rw [← hh, Bd.state]; rfl
  have N0 := Fr.nil n0
  refine Goes.out (Goes.by (fun tz kz => castTop (ef3_RR m ((w 1)) ((w 4))) kz) ?_)
  show Goes p e below (s₁.setTop (mkF m 0 #[.val (.ref (w 1)), .val (.ref (w 4))] [])) _
  refine Goes.by (fun _ kz => XS.aloadN X0.here hx rfl (hb hby d3_0) rfl rfl kz) ?_
  obtain ⟨T119, X119, e119, st119⟩ := getS2 X0 hx hZ hown (host := "") (Or.inl (hw _ (List.mem_of_getElem? (i := 18) rfl))) Via.refl e0 P.2.2.2.2.1 (g := (mkF m 1 #[.val (.ref (w 1)), .val (.ref (w 4))] [(.ref (w 4))])) rfl (hb hby d3_1)
  refine Goes.by st119 ?_
  refine Goes.by (fun _ kz => Jvm.RoadKit.acmp (g := (mkF m 4 #[.val (.ref (w 1)), .val (.ref (w 4))] [(.ref (w 2)), (.ref (w 4))])) X119 hx rfl rfl rfl (pc0 := 4) (pc' := 7) (same := false) rfl (hb hby d3_4) rfl (decide_eq_false fun q => (Ne.symm (own_ne_2_4 P)) (Value.ref.inj q)) (by decide) (by decide) (XS.aloadN X119.here hx rfl (hb hby d3_7) rfl rfl (XS.aloadN X119.here hx rfl (hb hby d3_8) rfl rfl kz))) ?_
  show Goes p e below (T119.setTop (mkF m 9 #[.val (.ref (w 1)), .val (.ref (w 4))] [(.ref (w 4)), (.ref (w 1))])) _
  refine Goes.by (fun _ kz => Jvm.RoadKit.acmp (g := (mkF m 9 #[.val (.ref (w 1)), .val (.ref (w 4))] [(.ref (w 4)), (.ref (w 1))])) X119 hx rfl rfl rfl (pc0 := 9) (pc' := 12) (same := false) rfl (hb hby d3_9) rfl (decide_eq_false fun q => (own_ne_1_4 P) (Value.ref.inj q)) (by decide) (by decide) (XS.aloadN X119.here hx rfl (hb hby d3_12) rfl rfl kz)) ?_
  obtain ⟨T120, X120, e120, st120⟩ := getS2 X119 hx hZ hown (host := "") (Or.inl (hw _ (List.mem_of_getElem? (i := 20) rfl))) Via.refl e119 P.2.2.1 (g := (mkF m 13 #[.val (.ref (w 1)), .val (.ref (w 4))] [(.ref (w 1))])) rfl (hb hby d3_13)
  refine Goes.by st120 ?_
  refine Goes.by (fun _ kz => Jvm.RoadKit.acmp (g := (mkF m 16 #[.val (.ref (w 1)), .val (.ref (w 4))] [(.ref (w 1)), (.ref (w 1))])) X120 hx rfl rfl rfl (pc0 := 16) (pc' := 19) (same := true) rfl (hb hby d3_16) rfl (decide_eq_true rfl) (by decide) (by decide) (XS.aloadN X120.here hx rfl (hb hby d3_19) rfl rfl kz)) ?_
  obtain ⟨T121, X121, e121, st121⟩ := getS2 X120 hx hZ hown (host := "") (Or.inl (hw _ (List.mem_of_getElem? (i := 24) rfl))) Via.refl e120 P.1 (g := (mkF m 20 #[.val (.ref (w 1)), .val (.ref (w 4))] [(.ref (w 4))])) rfl (hb hby d3_20)
  refine Goes.by st121 ?_
  refine Goes.by (fun _ kz => Jvm.RoadKit.acmp (g := (mkF m 23 #[.val (.ref (w 1)), .val (.ref (w 4))] [(.ref (w 0)), (.ref (w 4))])) X121 hx rfl rfl rfl (pc0 := 23) (pc' := 26) (same := false) rfl (hb hby d3_23) rfl (decide_eq_false fun q => (Ne.symm (own_ne_0_4 P)) (Value.ref.inj q)) (by decide) (by decide) (XS.iconst X121.here hx rfl (hb hby d3_26) (XS.goto X121.here hx rfl (pc0 := 27) (pc' := 31) rfl (hb hby d3_27) (by decide) (by decide) kz))) ?_
  show Goes p e below (T121.setTop (mkF m 31 #[.val (.ref (w 1)), .val (.ref (w 4))] [(.int (1 : Int32))])) _
  obtain ⟨fs, hr, hrun, hended, hW, hsame⟩ := X121.leave (v := some (.int (1 : Int32))) (fun h => by rw [Bd.returns] at h; cases h)
  exact ⟨_, _, retN X121 hx (t := .boolean) Bd.returns (by simp) (hb hby d3_31) hr, hrun, hended, _, _, rfl, ⟨rfl, N0, e121⟩, ⟨_, rfl⟩, hW, hsame.mono (by decide) (by decide)⟩
set_option maxRecDepth 65536 in
set_option maxHeartbeats 40000000 in
theorem r3_27 (l : Launch) (Z : State) (a0 : Array Value) (hw : ∀ d ∈ tables_1, d.before a0 Z = true) (ws : List Jvm.Cond) (h0 : Heap) (n0 : Nat) (Z0 : n0 ≤ h0.size) (w : Nat → Addr) (P : Pins Z h0 w) :
    MetFree l (⟨"com/example/nextkey/nextkey/lock/LockKind", "covers", "(Lcom/example/nextkey/nextkey/lock/LockKind;)Z"⟩ : MethodName) (head1 (Jvm.Cond.code (⟨"com/example/nextkey/nextkey/lock/LockKind", "covers", "(Lcom/example/nextkey/nextkey/lock/LockKind;)Z"⟩ : MethodName) prog_11_method_7_code 2 (some .boolean) :: ws) ({ frames := 0, cells := 0, slots := 0, locals := 0 } : Room)) (fun a U => a = #[(.ref (w 1)), (.ref (w 1))] ∧ Z.Warmed39 U.vm ∧ U.heap = h0) (fun _ _ _ _ _ => True) (fun _ U o U' => ∃ v L, o = .returned v ∧ QP (some (.int (1 : Int32))) h0 n0 v U'.heap L ∧ FrameEnd U o U' L ({ frames := 0, cells := 0, slots := 0, locals := 0 } : Room).cells ({ frames := 0, cells := 0, slots := 0, locals := 0 } : Room).slots) := by
  refine MetFree.of_bodySF (plainFor_of_name pn1) hisR ?_
  intro p e s m args below meth c s₁ Bd hml0 hP hK
  obtain ⟨rfl, hZ, hh⟩ := hP
  have hx := Bd.exec
  have hby := Bd.bytes
  have hml : c.maxLocals = 2 := hml0
  have hown : s.vm.findClass "com/example/nextkey/nextkey/lock/LockKind" = some m.cls := findClass_of_methodNamed Bd.named
  have hnm := (name_of_methodNamed Bd.named Bd.method).1
  have X0 : Stand p l e ({ frames := 0, cells := 0, slots := 0, locals := 0 } : Room) s m #[(.ref (w 1)), (.ref (w 1))] below meth c s₁ [] 0 0 := Stand.of_body Bd
  have e0 : s₁.heap = h0 := by rw [← hh, Bd.state]; rfl
  have N0 := Fr.nil n0
  refine Goes.out (Goes.by (fun tz kz => castTop (ef3_RR m ((w 1)) ((w 1))) kz) ?_)
  show Goes p e below (s₁.setTop (mkF m 0 #[.val (.ref (w 1)), .val (.ref (w 1))] [])) _
  refine Goes.by (fun _ kz => XS.aloadN X0.here hx rfl (hb hby d3_0) rfl rfl kz) ?_
  obtain ⟨T127, X127, e127, st127⟩ := getS2 X0 hx hZ hown (host := "") (Or.inl (hw _ (List.mem_of_getElem? (i := 18) rfl))) Via.refl e0 P.2.2.2.2.1 (g := (mkF m 1 #[.val (.ref (w 1)), .val (.ref (w 1))] [(.ref (w 1))])) rfl (hb hby d3_1)
  refine Goes.by st127 ?_
  refine Goes.by (fun _ kz => Jvm.RoadKit.acmp (g := (mkF m 4 #[.val (.ref (w 1)), .val (.ref (w 1))] [(.ref (w 2)), (.ref (w 1))])) X127 hx rfl rfl rfl (pc0 := 4) (pc' := 7) (same := false) rfl (hb hby d3_4) rfl (decide_eq_false fun q => (own_ne_1_2 P) (Value.ref.inj q)) (by decide) (by decide) (XS.aloadN X127.here hx rfl (hb hby d3_7) rfl rfl (XS.aloadN X127.here hx rfl (hb hby d3_8) rfl rfl kz))) ?_
  show Goes p e below (T127.setTop (mkF m 9 #[.val (.ref (w 1)), .val (.ref (w 1))] [(.ref (w 1)), (.ref (w 1))])) _
  refine Goes.by (fun _ kz => Jvm.RoadKit.acmp (g := (mkF m 9 #[.val (.ref (w 1)), .val (.ref (w 1))] [(.ref (w 1)), (.ref (w 1))])) X127 hx rfl rfl rfl (pc0 := 9) (pc' := 26) (same := true) rfl (hb hby d3_9) rfl (decide_eq_true rfl) (by decide) (by decide) (XS.iconst X127.here hx rfl (hb hby d3_26) (XS.goto X127.here hx rfl (pc0 := 27) (pc' := 31) rfl (hb hby d3_27) (by decide) (by decide) kz))) ?_
  show Goes p e below (T127.setTop (mkF m 31 #[.val (.ref (w 1)), .val (.ref (w 1))] [(.int (1 : Int32))])) _
  obtain ⟨fs, hr, hrun, hended, hW, hsame⟩ := X127.leave (v := some (.int (1 : Int32))) (fun h => by rw [Bd.returns] at h; cases h)
  exact ⟨_, _, retN X127 hx (t := .boolean) Bd.returns (by simp) (hb hby d3_31) hr, hrun, hended, _, _, rfl, ⟨rfl, N0, e127⟩, ⟨_, rfl⟩, hW, hsame.mono (by decide) (by decide)⟩
set_option maxRecDepth 65536 in
set_option maxHeartbeats 40000000 in
theorem r3_28 (l : Launch) (Z : State) (a0 : Array Value) (hw : ∀ d ∈ tables_1, d.before a0 Z = true) (ws : List Jvm.Cond) (h0 : Heap) (n0 : Nat) (Z0 : n0 ≤ h0.size) (w : Nat → Addr) (P : Pins Z h0 w) :
    MetFree l (⟨"com/example/nextkey/nextkey/lock/LockKind", "covers", "(Lcom/example/nextkey/nextkey/lock/LockKind;)Z"⟩ : MethodName) (head1 (Jvm.Cond.code (⟨"com/example/nextkey/nextkey/lock/LockKind", "covers", "(Lcom/example/nextkey/nextkey/lock/LockKind;)Z"⟩ : MethodName) prog_11_method_7_code 2 (some .boolean) :: ws) ({ frames := 0, cells := 0, slots := 0, locals := 0 } : Room)) (fun a U => a = #[(.ref (w 1)), (.ref (w 2))] ∧ Z.Warmed39 U.vm ∧ U.heap = h0) (fun _ _ _ _ _ => True) (fun _ U o U' => ∃ v L, o = .returned v ∧ QP (some (.int (0 : Int32))) h0 n0 v U'.heap L ∧ FrameEnd U o U' L ({ frames := 0, cells := 0, slots := 0, locals := 0 } : Room).cells ({ frames := 0, cells := 0, slots := 0, locals := 0 } : Room).slots) := by
  refine MetFree.of_bodySF (plainFor_of_name pn1) hisR ?_
  intro p e s m args below meth c s₁ Bd hml0 hP hK
  obtain ⟨rfl, hZ, hh⟩ := hP
  have hx := Bd.exec
  have hby := Bd.bytes
  have hml : c.maxLocals = 2 := hml0
  have hown : s.vm.findClass "com/example/nextkey/nextkey/lock/LockKind" = some m.cls := findClass_of_methodNamed Bd.named
  have hnm := (name_of_methodNamed Bd.named Bd.method).1
  have X0 : Stand p l e ({ frames := 0, cells := 0, slots := 0, locals := 0 } : Room) s m #[(.ref (w 1)), (.ref (w 2))] below meth c s₁ [] 0 0 := Stand.of_body Bd
  have e0 : s₁.heap = h0 := by rw [← hh, Bd.state]; rfl
  have N0 := Fr.nil n0
  refine Goes.out (Goes.by (fun tz kz => castTop (ef3_RR m ((w 1)) ((w 2))) kz) ?_)
  show Goes p e below (s₁.setTop (mkF m 0 #[.val (.ref (w 1)), .val (.ref (w 2))] [])) _
  refine Goes.by (fun _ kz => XS.aloadN X0.here hx rfl (hb hby d3_0) rfl rfl kz) ?_
  obtain ⟨T131, X131, e131, st131⟩ := getS2 X0 hx hZ hown (host := "") (Or.inl (hw _ (List.mem_of_getElem? (i := 18) rfl))) Via.refl e0 P.2.2.2.2.1 (g := (mkF m 1 #[.val (.ref (w 1)), .val (.ref (w 2))] [(.ref (w 2))])) rfl (hb hby d3_1)
  refine Goes.by st131 ?_
  refine Goes.by (fun _ kz => Jvm.RoadKit.acmp (g := (mkF m 4 #[.val (.ref (w 1)), .val (.ref (w 2))] [(.ref (w 2)), (.ref (w 2))])) X131 hx rfl rfl rfl (pc0 := 4) (pc' := 30) (same := true) rfl (hb hby d3_4) rfl (decide_eq_true rfl) (by decide) (by decide) (XS.iconst X131.here hx rfl (hb hby d3_30) kz)) ?_
  show Goes p e below (T131.setTop (mkF m 31 #[.val (.ref (w 1)), .val (.ref (w 2))] [(.int (0 : Int32))])) _
  obtain ⟨fs, hr, hrun, hended, hW, hsame⟩ := X131.leave (v := some (.int (0 : Int32))) (fun h => by rw [Bd.returns] at h; cases h)
  exact ⟨_, _, retN X131 hx (t := .boolean) Bd.returns (by simp) (hb hby d3_31) hr, hrun, hended, _, _, rfl, ⟨rfl, N0, e131⟩, ⟨_, rfl⟩, hW, hsame.mono (by decide) (by decide)⟩
set_option maxRecDepth 65536 in
set_option maxHeartbeats 40000000 in
theorem r3_29 (l : Launch) (Z : State) (a0 : Array Value) (hw : ∀ d ∈ tables_1, d.before a0 Z = true) (ws : List Jvm.Cond) (h0 : Heap) (n0 : Nat) (Z0 : n0 ≤ h0.size) (w : Nat → Addr) (P : Pins Z h0 w) :
    MetFree l (⟨"com/example/nextkey/nextkey/lock/LockKind", "covers", "(Lcom/example/nextkey/nextkey/lock/LockKind;)Z"⟩ : MethodName) (head1 (Jvm.Cond.code (⟨"com/example/nextkey/nextkey/lock/LockKind", "covers", "(Lcom/example/nextkey/nextkey/lock/LockKind;)Z"⟩ : MethodName) prog_11_method_7_code 2 (some .boolean) :: ws) ({ frames := 0, cells := 0, slots := 0, locals := 0 } : Room)) (fun a U => a = #[(.ref (w 2)), (.ref (w 0))] ∧ Z.Warmed39 U.vm ∧ U.heap = h0) (fun _ _ _ _ _ => True) (fun _ U o U' => ∃ v L, o = .returned v ∧ QP (some (.int (0 : Int32))) h0 n0 v U'.heap L ∧ FrameEnd U o U' L ({ frames := 0, cells := 0, slots := 0, locals := 0 } : Room).cells ({ frames := 0, cells := 0, slots := 0, locals := 0 } : Room).slots) := by
  refine MetFree.of_bodySF (plainFor_of_name pn1) hisR ?_
  intro p e s m args below meth c s₁ Bd hml0 hP hK
  obtain ⟨rfl, hZ, hh⟩ := hP
  have hx := Bd.exec
  have hby := Bd.bytes
  have hml : c.maxLocals = 2 := hml0
  have hown : s.vm.findClass "com/example/nextkey/nextkey/lock/LockKind" = some m.cls := findClass_of_methodNamed Bd.named
  have hnm := (name_of_methodNamed Bd.named Bd.method).1
  have X0 : Stand p l e ({ frames := 0, cells := 0, slots := 0, locals := 0 } : Room) s m #[(.ref (w 2)), (.ref (w 0))] below meth c s₁ [] 0 0 := Stand.of_body Bd
  have e0 : s₁.heap = h0 := by rw [← hh, Bd.state]; rfl
  have N0 := Fr.nil n0
  refine Goes.out (Goes.by (fun tz kz => castTop (ef3_RR m ((w 2)) ((w 0))) kz) ?_)
  show Goes p e below (s₁.setTop (mkF m 0 #[.val (.ref (w 2)), .val (.ref (w 0))] [])) _
  refine Goes.by (fun _ kz => XS.aloadN X0.here hx rfl (hb hby d3_0) rfl rfl kz) ?_
  obtain ⟨T135, X135, e135, st135⟩ := getS2 X0 hx hZ hown (host := "") (Or.inl (hw _ (List.mem_of_getElem? (i := 18) rfl))) Via.refl e0 P.2.2.2.2.1 (g := (mkF m 1 #[.val (.ref (w 2)), .val (.ref (w 0))] [(.ref (w 0))])) rfl (hb hby d3_1)
  refine Goes.by st135 ?_
  refine Goes.by (fun _ kz => Jvm.RoadKit.acmp (g := (mkF m 4 #[.val (.ref (w 2)), .val (.ref (w 0))] [(.ref (w 2)), (.ref (w 0))])) X135 hx rfl rfl rfl (pc0 := 4) (pc' := 7) (same := false) rfl (hb hby d3_4) rfl (decide_eq_false fun q => (Ne.symm (own_ne_2_0 P)) (Value.ref.inj q)) (by decide) (by decide) (XS.aloadN X135.here hx rfl (hb hby d3_7) rfl rfl (XS.aloadN X135.here hx rfl (hb hby d3_8) rfl rfl kz))) ?_
  show Goes p e below (T135.setTop (mkF m 9 #[.val (.ref (w 2)), .val (.ref (w 0))] [(.ref (w 0)), (.ref (w 2))])) _
  refine Goes.by (fun _ kz => Jvm.RoadKit.acmp (g := (mkF m 9 #[.val (.ref (w 2)), .val (.ref (w 0))] [(.ref (w 0)), (.ref (w 2))])) X135 hx rfl rfl rfl (pc0 := 9) (pc' := 12) (same := false) rfl (hb hby d3_9) rfl (decide_eq_false fun q => (own_ne_2_0 P) (Value.ref.inj q)) (by decide) (by decide) (XS.aloadN X135.here hx rfl (hb hby d3_12) rfl rfl kz)) ?_
  obtain ⟨T136, X136, e136, st136⟩ := getS2 X135 hx hZ hown (host := "") (Or.inl (hw _ (List.mem_of_getElem? (i := 20) rfl))) Via.refl e135 P.2.2.1 (g := (mkF m 13 #[.val (.ref (w 2)), .val (.ref (w 0))] [(.ref (w 2))])) rfl (hb hby d3_13)
  refine Goes.by st136 ?_
  refine Goes.by (fun _ kz => Jvm.RoadKit.acmp (g := (mkF m 16 #[.val (.ref (w 2)), .val (.ref (w 0))] [(.ref (w 1)), (.ref (w 2))])) X136 hx rfl rfl rfl (pc0 := 16) (pc' := 30) (same := false) rfl (hb hby d3_16) rfl (decide_eq_false fun q => (Ne.symm (own_ne_1_2 P)) (Value.ref.inj q)) (by decide) (by decide) (XS.iconst X136.here hx rfl (hb hby d3_30) kz)) ?_
  show Goes p e below (T136.setTop (mkF m 31 #[.val (.ref (w 2)), .val (.ref (w 0))] [(.int (0 : Int32))])) _
  obtain ⟨fs, hr, hrun, hended, hW, hsame⟩ := X136.leave (v := some (.int (0 : Int32))) (fun h => by rw [Bd.returns] at h; cases h)
  exact ⟨_, _, retN X136 hx (t := .boolean) Bd.returns (by simp) (hb hby d3_31) hr, hrun, hended, _, _, rfl, ⟨rfl, N0, e136⟩, ⟨_, rfl⟩, hW, hsame.mono (by decide) (by decide)⟩
set_option maxRecDepth 65536 in
set_option maxHeartbeats 40000000 in
theorem r3_30 (l : Launch) (Z : State) (a0 : Array Value) (hw : ∀ d ∈ tables_1, d.before a0 Z = true) (ws : List Jvm.Cond) (h0 : Heap) (n0 : Nat) (Z0 : n0 ≤ h0.size) (w : Nat → Addr) (P : Pins Z h0 w) :
    MetFree l (⟨"com/example/nextkey/nextkey/lock/LockKind", "covers", "(Lcom/example/nextkey/nextkey/lock/LockKind;)Z"⟩ : MethodName) (head1 (Jvm.Cond.code (⟨"com/example/nextkey/nextkey/lock/LockKind", "covers", "(Lcom/example/nextkey/nextkey/lock/LockKind;)Z"⟩ : MethodName) prog_11_method_7_code 2 (some .boolean) :: ws) ({ frames := 0, cells := 0, slots := 0, locals := 0 } : Room)) (fun a U => a = #[(.ref (w 2)), (.ref (w 3))] ∧ Z.Warmed39 U.vm ∧ U.heap = h0) (fun _ _ _ _ _ => True) (fun _ U o U' => ∃ v L, o = .returned v ∧ QP (some (.int (0 : Int32))) h0 n0 v U'.heap L ∧ FrameEnd U o U' L ({ frames := 0, cells := 0, slots := 0, locals := 0 } : Room).cells ({ frames := 0, cells := 0, slots := 0, locals := 0 } : Room).slots) := by
  refine MetFree.of_bodySF (plainFor_of_name pn1) hisR ?_
  intro p e s m args below meth c s₁ Bd hml0 hP hK
  obtain ⟨rfl, hZ, hh⟩ := hP
  have hx := Bd.exec
  have hby := Bd.bytes
  have hml : c.maxLocals = 2 := hml0
  have hown : s.vm.findClass "com/example/nextkey/nextkey/lock/LockKind" = some m.cls := findClass_of_methodNamed Bd.named
  have hnm := (name_of_methodNamed Bd.named Bd.method).1
  have X0 : Stand p l e ({ frames := 0, cells := 0, slots := 0, locals := 0 } : Room) s m #[(.ref (w 2)), (.ref (w 3))] below meth c s₁ [] 0 0 := Stand.of_body Bd
  have e0 : s₁.heap = h0 := by rw [← hh, Bd.state]; rfl
  have N0 := Fr.nil n0
  refine Goes.out (Goes.by (fun tz kz => castTop (ef3_RR m ((w 2)) ((w 3))) kz) ?_)
  show Goes p e below (s₁.setTop (mkF m 0 #[.val (.ref (w 2)), .val (.ref (w 3))] [])) _
  refine Goes.by (fun _ kz => XS.aloadN X0.here hx rfl (hb hby d3_0) rfl rfl kz) ?_
  obtain ⟨T140, X140, e140, st140⟩ := getS2 X0 hx hZ hown (host := "") (Or.inl (hw _ (List.mem_of_getElem? (i := 18) rfl))) Via.refl e0 P.2.2.2.2.1 (g := (mkF m 1 #[.val (.ref (w 2)), .val (.ref (w 3))] [(.ref (w 3))])) rfl (hb hby d3_1)
  refine Goes.by st140 ?_
  refine Goes.by (fun _ kz => Jvm.RoadKit.acmp (g := (mkF m 4 #[.val (.ref (w 2)), .val (.ref (w 3))] [(.ref (w 2)), (.ref (w 3))])) X140 hx rfl rfl rfl (pc0 := 4) (pc' := 7) (same := false) rfl (hb hby d3_4) rfl (decide_eq_false fun q => (Ne.symm (own_ne_2_3 P)) (Value.ref.inj q)) (by decide) (by decide) (XS.aloadN X140.here hx rfl (hb hby d3_7) rfl rfl (XS.aloadN X140.here hx rfl (hb hby d3_8) rfl rfl kz))) ?_
  show Goes p e below (T140.setTop (mkF m 9 #[.val (.ref (w 2)), .val (.ref (w 3))] [(.ref (w 3)), (.ref (w 2))])) _
  refine Goes.by (fun _ kz => Jvm.RoadKit.acmp (g := (mkF m 9 #[.val (.ref (w 2)), .val (.ref (w 3))] [(.ref (w 3)), (.ref (w 2))])) X140 hx rfl rfl rfl (pc0 := 9) (pc' := 12) (same := false) rfl (hb hby d3_9) rfl (decide_eq_false fun q => (own_ne_2_3 P) (Value.ref.inj q)) (by decide) (by decide) (XS.aloadN X140.here hx rfl (hb hby d3_12) rfl rfl kz)) ?_
  obtain ⟨T141, X141, e141, st141⟩ := getS2 X140 hx hZ hown (host := "") (Or.inl (hw _ (List.mem_of_getElem? (i := 20) rfl))) Via.refl e140 P.2.2.1 (g := (mkF m 13 #[.val (.ref (w 2)), .val (.ref (w 3))] [(.ref (w 2))])) rfl (hb hby d3_13)
  refine Goes.by st141 ?_
  refine Goes.by (fun _ kz => Jvm.RoadKit.acmp (g := (mkF m 16 #[.val (.ref (w 2)), .val (.ref (w 3))] [(.ref (w 1)), (.ref (w 2))])) X141 hx rfl rfl rfl (pc0 := 16) (pc' := 30) (same := false) rfl (hb hby d3_16) rfl (decide_eq_false fun q => (Ne.symm (own_ne_1_2 P)) (Value.ref.inj q)) (by decide) (by decide) (XS.iconst X141.here hx rfl (hb hby d3_30) kz)) ?_
  show Goes p e below (T141.setTop (mkF m 31 #[.val (.ref (w 2)), .val (.ref (w 3))] [(.int (0 : Int32))])) _
  obtain ⟨fs, hr, hrun, hended, hW, hsame⟩ := X141.leave (v := some (.int (0 : Int32))) (fun h => by rw [Bd.returns] at h; cases h)
  exact ⟨_, _, retN X141 hx (t := .boolean) Bd.returns (by simp) (hb hby d3_31) hr, hrun, hended, _, _, rfl, ⟨rfl, N0, e141⟩, ⟨_, rfl⟩, hW, hsame.mono (by decide) (by decide)⟩
set_option maxRecDepth 65536 in
set_option maxHeartbeats 40000000 in
theorem r3_31 (l : Launch) (Z : State) (a0 : Array Value) (hw : ∀ d ∈ tables_1, d.before a0 Z = true) (ws : List Jvm.Cond) (h0 : Heap) (n0 : Nat) (Z0 : n0 ≤ h0.size) (w : Nat → Addr) (P : Pins Z h0 w) :
    MetFree l (⟨"com/example/nextkey/nextkey/lock/LockKind", "covers", "(Lcom/example/nextkey/nextkey/lock/LockKind;)Z"⟩ : MethodName) (head1 (Jvm.Cond.code (⟨"com/example/nextkey/nextkey/lock/LockKind", "covers", "(Lcom/example/nextkey/nextkey/lock/LockKind;)Z"⟩ : MethodName) prog_11_method_7_code 2 (some .boolean) :: ws) ({ frames := 0, cells := 0, slots := 0, locals := 0 } : Room)) (fun a U => a = #[(.ref (w 2)), (.ref (w 4))] ∧ Z.Warmed39 U.vm ∧ U.heap = h0) (fun _ _ _ _ _ => True) (fun _ U o U' => ∃ v L, o = .returned v ∧ QP (some (.int (0 : Int32))) h0 n0 v U'.heap L ∧ FrameEnd U o U' L ({ frames := 0, cells := 0, slots := 0, locals := 0 } : Room).cells ({ frames := 0, cells := 0, slots := 0, locals := 0 } : Room).slots) := by
  refine MetFree.of_bodySF (plainFor_of_name pn1) hisR ?_
  intro p e s m args below meth c s₁ Bd hml0 hP hK
  obtain ⟨rfl, hZ, hh⟩ := hP
  have hx := Bd.exec
  have hby := Bd.bytes
  have hml : c.maxLocals = 2 := hml0
  have hown : s.vm.findClass "com/example/nextkey/nextkey/lock/LockKind" = some m.cls := findClass_of_methodNamed Bd.named
  have hnm := (name_of_methodNamed Bd.named Bd.method).1
  have X0 : Stand p l e ({ frames := 0, cells := 0, slots := 0, locals := 0 } : Room) s m #[(.ref (w 2)), (.ref (w 4))] below meth c s₁ [] 0 0 := Stand.of_body Bd
  have e0 : s₁.heap = h0 := by rw [← hh, Bd.state]; rfl
  have N0 := Fr.nil n0
  refine Goes.out (Goes.by (fun tz kz => castTop (ef3_RR m ((w 2)) ((w 4))) kz) ?_)
  show Goes p e below (s₁.setTop (mkF m 0 #[.val (.ref (w 2)), .val (.ref (w 4))] [])) _
  refine Goes.by (fun _ kz => XS.aloadN X0.here hx rfl (hb hby d3_0) rfl rfl kz) ?_
  obtain ⟨T145, X145, e145, st145⟩ := getS2 X0 hx hZ hown (host := "") (Or.inl (hw _ (List.mem_of_getElem? (i := 18) rfl))) Via.refl e0 P.2.2.2.2.1 (g := (mkF m 1 #[.val (.ref (w 2)), .val (.ref (w 4))] [(.ref (w 4))])) rfl (hb hby d3_1)
  refine Goes.by st145 ?_
  refine Goes.by (fun _ kz => Jvm.RoadKit.acmp (g := (mkF m 4 #[.val (.ref (w 2)), .val (.ref (w 4))] [(.ref (w 2)), (.ref (w 4))])) X145 hx rfl rfl rfl (pc0 := 4) (pc' := 7) (same := false) rfl (hb hby d3_4) rfl (decide_eq_false fun q => (Ne.symm (own_ne_2_4 P)) (Value.ref.inj q)) (by decide) (by decide) (XS.aloadN X145.here hx rfl (hb hby d3_7) rfl rfl (XS.aloadN X145.here hx rfl (hb hby d3_8) rfl rfl kz))) ?_
  show Goes p e below (T145.setTop (mkF m 9 #[.val (.ref (w 2)), .val (.ref (w 4))] [(.ref (w 4)), (.ref (w 2))])) _
  refine Goes.by (fun _ kz => Jvm.RoadKit.acmp (g := (mkF m 9 #[.val (.ref (w 2)), .val (.ref (w 4))] [(.ref (w 4)), (.ref (w 2))])) X145 hx rfl rfl rfl (pc0 := 9) (pc' := 12) (same := false) rfl (hb hby d3_9) rfl (decide_eq_false fun q => (own_ne_2_4 P) (Value.ref.inj q)) (by decide) (by decide) (XS.aloadN X145.here hx rfl (hb hby d3_12) rfl rfl kz)) ?_
  obtain ⟨T146, X146, e146, st146⟩ := getS2 X145 hx hZ hown (host := "") (Or.inl (hw _ (List.mem_of_getElem? (i := 20) rfl))) Via.refl e145 P.2.2.1 (g := (mkF m 13 #[.val (.ref (w 2)), .val (.ref (w 4))] [(.ref (w 2))])) rfl (hb hby d3_13)
  refine Goes.by st146 ?_
  refine Goes.by (fun _ kz => Jvm.RoadKit.acmp (g := (mkF m 16 #[.val (.ref (w 2)), .val (.ref (w 4))] [(.ref (w 1)), (.ref (w 2))])) X146 hx rfl rfl rfl (pc0 := 16) (pc' := 30) (same := false) rfl (hb hby d3_16) rfl (decide_eq_false fun q => (Ne.symm (own_ne_1_2 P)) (Value.ref.inj q)) (by decide) (by decide) (XS.iconst X146.here hx rfl (hb hby d3_30) kz)) ?_
  show Goes p e below (T146.setTop (mkF m 31 #[.val (.ref (w 2)), .val (.ref (w 4))] [(.int (0 : Int32))])) _
  obtain ⟨fs, hr, hrun, hended, hW, hsame⟩ := X146.leave (v := some (.int (0 : Int32))) (fun h => by rw [Bd.returns] at h; cases h)
  exact ⟨_, _, retN X146 hx (t := .boolean) Bd.returns (by simp) (hb hby d3_31) hr, hrun, hended, _, _, rfl, ⟨rfl, N0, e146⟩, ⟨_, rfl⟩, hW, hsame.mono (by decide) (by decide)⟩
set_option maxRecDepth 65536 in
set_option maxHeartbeats 40000000 in
theorem r3_32 (l : Launch) (Z : State) (a0 : Array Value) (hw : ∀ d ∈ tables_1, d.before a0 Z = true) (ws : List Jvm.Cond) (h0 : Heap) (n0 : Nat) (Z0 : n0 ≤ h0.size) (w : Nat → Addr) (P : Pins Z h0 w) :
    MetFree l (⟨"com/example/nextkey/nextkey/lock/LockKind", "covers", "(Lcom/example/nextkey/nextkey/lock/LockKind;)Z"⟩ : MethodName) (head1 (Jvm.Cond.code (⟨"com/example/nextkey/nextkey/lock/LockKind", "covers", "(Lcom/example/nextkey/nextkey/lock/LockKind;)Z"⟩ : MethodName) prog_11_method_7_code 2 (some .boolean) :: ws) ({ frames := 0, cells := 0, slots := 0, locals := 0 } : Room)) (fun a U => a = #[(.ref (w 2)), (.ref (w 1))] ∧ Z.Warmed39 U.vm ∧ U.heap = h0) (fun _ _ _ _ _ => True) (fun _ U o U' => ∃ v L, o = .returned v ∧ QP (some (.int (0 : Int32))) h0 n0 v U'.heap L ∧ FrameEnd U o U' L ({ frames := 0, cells := 0, slots := 0, locals := 0 } : Room).cells ({ frames := 0, cells := 0, slots := 0, locals := 0 } : Room).slots) := by
  refine MetFree.of_bodySF (plainFor_of_name pn1) hisR ?_
  intro p e s m args below meth c s₁ Bd hml0 hP hK
  obtain ⟨rfl, hZ, hh⟩ := hP
  have hx := Bd.exec
  have hby := Bd.bytes
  have hml : c.maxLocals = 2 := hml0
  have hown : s.vm.findClass "com/example/nextkey/nextkey/lock/LockKind" = some m.cls := findClass_of_methodNamed Bd.named
  have hnm := (name_of_methodNamed Bd.named Bd.method).1
  have X0 : Stand p l e ({ frames := 0, cells := 0, slots := 0, locals := 0 } : Room) s m #[(.ref (w 2)), (.ref (w 1))] below meth c s₁ [] 0 0 := Stand.of_body Bd
  have e0 : s₁.heap = h0 := by rw [← hh, Bd.state]; rfl
  have N0 := Fr.nil n0
  refine Goes.out (Goes.by (fun tz kz => castTop (ef3_RR m ((w 2)) ((w 1))) kz) ?_)
  show Goes p e below (s₁.setTop (mkF m 0 #[.val (.ref (w 2)), .val (.ref (w 1))] [])) _
  refine Goes.by (fun _ kz => XS.aloadN X0.here hx rfl (hb hby d3_0) rfl rfl kz) ?_
  obtain ⟨T150, X150, e150, st150⟩ := getS2 X0 hx hZ hown (host := "") (Or.inl (hw _ (List.mem_of_getElem? (i := 18) rfl))) Via.refl e0 P.2.2.2.2.1 (g := (mkF m 1 #[.val (.ref (w 2)), .val (.ref (w 1))] [(.ref (w 1))])) rfl (hb hby d3_1)
  refine Goes.by st150 ?_
  refine Goes.by (fun _ kz => Jvm.RoadKit.acmp (g := (mkF m 4 #[.val (.ref (w 2)), .val (.ref (w 1))] [(.ref (w 2)), (.ref (w 1))])) X150 hx rfl rfl rfl (pc0 := 4) (pc' := 7) (same := false) rfl (hb hby d3_4) rfl (decide_eq_false fun q => (own_ne_1_2 P) (Value.ref.inj q)) (by decide) (by decide) (XS.aloadN X150.here hx rfl (hb hby d3_7) rfl rfl (XS.aloadN X150.here hx rfl (hb hby d3_8) rfl rfl kz))) ?_
  show Goes p e below (T150.setTop (mkF m 9 #[.val (.ref (w 2)), .val (.ref (w 1))] [(.ref (w 1)), (.ref (w 2))])) _
  refine Goes.by (fun _ kz => Jvm.RoadKit.acmp (g := (mkF m 9 #[.val (.ref (w 2)), .val (.ref (w 1))] [(.ref (w 1)), (.ref (w 2))])) X150 hx rfl rfl rfl (pc0 := 9) (pc' := 12) (same := false) rfl (hb hby d3_9) rfl (decide_eq_false fun q => (Ne.symm (own_ne_1_2 P)) (Value.ref.inj q)) (by decide) (by decide) (XS.aloadN X150.here hx rfl (hb hby d3_12) rfl rfl kz)) ?_
  obtain ⟨T151, X151, e151, st151⟩ := getS2 X150 hx hZ hown (host := "") (Or.inl (hw _ (List.mem_of_getElem? (i := 20) rfl))) Via.refl e150 P.2.2.1 (g := (mkF m 13 #[.val (.ref (w 2)), .val (.ref (w 1))] [(.ref (w 2))])) rfl (hb hby d3_13)
  refine Goes.by st151 ?_
  refine Goes.by (fun _ kz => Jvm.RoadKit.acmp (g := (mkF m 16 #[.val (.ref (w 2)), .val (.ref (w 1))] [(.ref (w 1)), (.ref (w 2))])) X151 hx rfl rfl rfl (pc0 := 16) (pc' := 30) (same := false) rfl (hb hby d3_16) rfl (decide_eq_false fun q => (Ne.symm (own_ne_1_2 P)) (Value.ref.inj q)) (by decide) (by decide) (XS.iconst X151.here hx rfl (hb hby d3_30) kz)) ?_
  show Goes p e below (T151.setTop (mkF m 31 #[.val (.ref (w 2)), .val (.ref (w 1))] [(.int (0 : Int32))])) _
  obtain ⟨fs, hr, hrun, hended, hW, hsame⟩ := X151.leave (v := some (.int (0 : Int32))) (fun h => by rw [Bd.returns] at h; cases h)
  exact ⟨_, _, retN X151 hx (t := .boolean) Bd.returns (by simp) (hb hby d3_31) hr, hrun, hended, _, _, rfl, ⟨rfl, N0, e151⟩, ⟨_, rfl⟩, hW, hsame.mono (by decide) (by decide)⟩
set_option maxRecDepth 65536 in
set_option maxHeartbeats 40000000 in
theorem r3_33 (l : Launch) (Z : State) (a0 : Array Value) (hw : ∀ d ∈ tables_1, d.before a0 Z = true) (ws : List Jvm.Cond) (h0 : Heap) (n0 : Nat) (Z0 : n0 ≤ h0.size) (w : Nat → Addr) (P : Pins Z h0 w) :
    MetFree l (⟨"com/example/nextkey/nextkey/lock/LockKind", "covers", "(Lcom/example/nextkey/nextkey/lock/LockKind;)Z"⟩ : MethodName) (head1 (Jvm.Cond.code (⟨"com/example/nextkey/nextkey/lock/LockKind", "covers", "(Lcom/example/nextkey/nextkey/lock/LockKind;)Z"⟩ : MethodName) prog_11_method_7_code 2 (some .boolean) :: ws) ({ frames := 0, cells := 0, slots := 0, locals := 0 } : Room)) (fun a U => a = #[(.ref (w 2)), (.ref (w 2))] ∧ Z.Warmed39 U.vm ∧ U.heap = h0) (fun _ _ _ _ _ => True) (fun _ U o U' => ∃ v L, o = .returned v ∧ QP (some (.int (0 : Int32))) h0 n0 v U'.heap L ∧ FrameEnd U o U' L ({ frames := 0, cells := 0, slots := 0, locals := 0 } : Room).cells ({ frames := 0, cells := 0, slots := 0, locals := 0 } : Room).slots) := by
  refine MetFree.of_bodySF (plainFor_of_name pn1) hisR ?_
  intro p e s m args below meth c s₁ Bd hml0 hP hK
  obtain ⟨rfl, hZ, hh⟩ := hP
  have hx := Bd.exec
  have hby := Bd.bytes
  have hml : c.maxLocals = 2 := hml0
  have hown : s.vm.findClass "com/example/nextkey/nextkey/lock/LockKind" = some m.cls := findClass_of_methodNamed Bd.named
  have hnm := (name_of_methodNamed Bd.named Bd.method).1
  have X0 : Stand p l e ({ frames := 0, cells := 0, slots := 0, locals := 0 } : Room) s m #[(.ref (w 2)), (.ref (w 2))] below meth c s₁ [] 0 0 := Stand.of_body Bd
  have e0 : s₁.heap = h0 := by rw [← hh, Bd.state]; rfl
  have N0 := Fr.nil n0
  refine Goes.out (Goes.by (fun tz kz => castTop (ef3_RR m ((w 2)) ((w 2))) kz) ?_)
  show Goes p e below (s₁.setTop (mkF m 0 #[.val (.ref (w 2)), .val (.ref (w 2))] [])) _
  refine Goes.by (fun _ kz => XS.aloadN X0.here hx rfl (hb hby d3_0) rfl rfl kz) ?_
  obtain ⟨T155, X155, e155, st155⟩ := getS2 X0 hx hZ hown (host := "") (Or.inl (hw _ (List.mem_of_getElem? (i := 18) rfl))) Via.refl e0 P.2.2.2.2.1 (g := (mkF m 1 #[.val (.ref (w 2)), .val (.ref (w 2))] [(.ref (w 2))])) rfl (hb hby d3_1)
  refine Goes.by st155 ?_
  refine Goes.by (fun _ kz => Jvm.RoadKit.acmp (g := (mkF m 4 #[.val (.ref (w 2)), .val (.ref (w 2))] [(.ref (w 2)), (.ref (w 2))])) X155 hx rfl rfl rfl (pc0 := 4) (pc' := 30) (same := true) rfl (hb hby d3_4) rfl (decide_eq_true rfl) (by decide) (by decide) (XS.iconst X155.here hx rfl (hb hby d3_30) kz)) ?_
  show Goes p e below (T155.setTop (mkF m 31 #[.val (.ref (w 2)), .val (.ref (w 2))] [(.int (0 : Int32))])) _
  obtain ⟨fs, hr, hrun, hended, hW, hsame⟩ := X155.leave (v := some (.int (0 : Int32))) (fun h => by rw [Bd.returns] at h; cases h)
  exact ⟨_, _, retN X155 hx (t := .boolean) Bd.returns (by simp) (hb hby d3_31) hr, hrun, hended, _, _, rfl, ⟨rfl, N0, e155⟩, ⟨_, rfl⟩, hW, hsame.mono (by decide) (by decide)⟩
set_option maxRecDepth 65536 in
set_option maxHeartbeats 40000000 in
theorem rm0 (l : Launch) (Z : State) (a0 : Array Value) (hw : ∀ d ∈ tables_1, d.before a0 Z = true) (ws : List Jvm.Cond) (h0 : Heap) (n0 : Nat) (Z0 : n0 ≤ h0.size) (p1 : Int32) (p2 : Int32) (w : Nat → Addr) (P : Pins Z h0 w) :
    MetFree l x (head1 (Jvm.Cond.code x code maxLocals ret :: ws) room_1) (fun a U => a = #[(.int p1), (.int p2)] ∧ Z.Warmed39 U.vm ∧ U.heap = h0) (fun _ _ _ _ _ => True) (fun _ U o U' => ∃ v L, o = .returned v ∧ QL n0 v U'.heap L ∧ FrameEnd U o U' L 0 0) := by
  refine MetFree.of_bodySF (plainFor_of_name pn0) hisR ?_
  intro p e s m args below meth c s₁ Bd hml0 hP hK
  obtain ⟨rfl, hZ, hh⟩ := hP
  have hx := Bd.exec
  have hby := Bd.bytes
  have hml : c.maxLocals = 7 := hml0
  have hown : s.vm.findClass "com/example/nextkey/nextkey/lock/LockKindCoversPinLaw" = some m.cls := findClass_of_methodNamed Bd.named
  have hnm := (name_of_methodNamed Bd.named Bd.method).1
  have X0 : Stand p l e room_1 s m #[(.int p1), (.int p2)] below meth c s₁ [] 0 0 := Stand.of_body Bd
  have e0 : s₁.heap = h0 := by rw [← hh, Bd.state]; rfl
  have N0 := Fr.nil n0
  refine Goes.out (Goes.by (fun tz kz => castTop (ef0_II m p1 p2) kz) ?_)
  show Goes p e below (s₁.setTop (mkF m 0 #[.val (.int p1), .val (.int p2), .unset, .unset, .unset, .unset, .unset] [])) _
  refine Goes.by (fun _ kz => XS.iloadN X0.here hx rfl (hb hby at_0) rfl (X0.ldcInt hx hown (mvT hZ (hw _ (List.mem_of_getElem? (i := 0) rfl))) (g := (mkF m 1 #[.val (.int p1), .val (.int p2), .unset, .unset, .unset, .unset, .unset] [(.int p1)])) rfl (hb hby at_1) _ (XS.iand X0.here hx rfl (hb hby at_3) rfl kz))) ?_
  show Goes p e below (s₁.setTop (mkF m 4 #[.val (.int p1), .val (.int p2), .unset, .unset, .unset, .unset, .unset] [(.int (p1 &&& (2147483647 : Int32)))])) _
  refine Goes.by (fun _ kz => XS.iconst X0.here hx rfl (hb hby at_4) (iremM X0 hx rfl (hb hby at_5) rfl (by decide) (XS.istoreN X0.here hx rfl (hb hby at_6) rfl (l' := #[.val (.int p1), .val (.int p2), .val (.int ((p1 &&& (2147483647 : Int32)) % (5 : Int32))), .unset, .unset, .unset, .unset]) rfl kz))) ?_
  show Goes p e below (s₁.setTop (mkF m 7 #[.val (.int p1), .val (.int p2), .val (.int ((p1 &&& (2147483647 : Int32)) % (5 : Int32))), .unset, .unset, .unset, .unset] [])) _
  have hsi := own_split p1
  obtain ⟨i, hi⟩ : ∃ z, z = ((p1 &&& (2147483647 : Int32)) % (5 : Int32)) := ⟨_, rfl⟩
  rw [← hi] at hsi ⊢
  rcases hsi with rfl | rfl | rfl | rfl | rfl
  · show Goes p e below (s₁.setTop (mkF m 7 #[.val (.int p1), .val (.int p2), .val (.int (0 : Int32)), .unset, .unset, .unset, .unset] [])) _
    refine Goes.by (fun _ kz => XS.iloadN X0.here hx rfl (hb hby at_7) rfl (X0.ldcInt hx hown (mvT hZ (hw _ (List.mem_of_getElem? (i := 0) rfl))) (g := (mkF m 8 #[.val (.int p1), .val (.int p2), .val (.int (0 : Int32)), .unset, .unset, .unset, .unset] [(.int p2)])) rfl (hb hby at_8) _ (XS.iand X0.here hx rfl (hb hby at_10) rfl kz))) ?_
    show Goes p e below (s₁.setTop (mkF m 11 #[.val (.int p1), .val (.int p2), .val (.int (0 : Int32)), .unset, .unset, .unset, .unset] [(.int (p2 &&& (2147483647 : Int32)))])) _
    refine Goes.by (fun _ kz => XS.iconst X0.here hx rfl (hb hby at_11) (iremM X0 hx rfl (hb hby at_12) rfl (by decide) (XS.istoreN X0.here hx rfl (hb hby at_13) rfl (l' := #[.val (.int p1), .val (.int p2), .val (.int (0 : Int32)), .val (.int ((p2 &&& (2147483647 : Int32)) % (5 : Int32))), .unset, .unset, .unset]) rfl kz))) ?_
    show Goes p e below (s₁.setTop (mkF m 14 #[.val (.int p1), .val (.int p2), .val (.int (0 : Int32)), .val (.int ((p2 &&& (2147483647 : Int32)) % (5 : Int32))), .unset, .unset, .unset] [])) _
    have hsj := own_split p2
    obtain ⟨j, hj⟩ : ∃ z, z = ((p2 &&& (2147483647 : Int32)) % (5 : Int32)) := ⟨_, rfl⟩
    rw [← hj] at hsj ⊢
    rcases hsj with rfl | rfl | rfl | rfl | rfl
    · show Goes p e below (s₁.setTop (mkF m 14 #[.val (.int p1), .val (.int p2), .val (.int (0 : Int32)), .val (.int (0 : Int32)), .unset, .unset, .unset] [])) _
      refine Goes.by (fun _ kz => XS.iloadN X0.here hx rfl (hb hby at_14) rfl kz) ?_
      obtain ⟨_, _, ⟨T2, L2, k2, n2⟩, -, X2, ⟨Lc2, hQ2, l2, y2, z2⟩, st2⟩ := Jvm.LawKit.callS X0 hx (y := (⟨"com/example/nextkey/nextkey/lock/LockKindCoversPinLaw", "kind", "(I)Lcom/example/nextkey/nextkey/lock/LockKind;"⟩ : MethodName)) hown (mvT hZ (hw _ (List.mem_of_getElem? (i := 1) rfl))) (mvT hZ (hw _ (List.mem_of_getElem? (i := 2) rfl))) (mvT hZ (hw _ (List.mem_of_getElem? (i := 3) rfl))) (mvT hZ (hw _ (List.mem_of_getElem? (i := 4) rfl))) (by decide) (backOf (W := 0) (r1_0 l Z a0 hw [] h0 n0 Z0 w P) hZ (hw _ (List.mem_of_getElem? (i := 4) rfl)) (hw _ (List.mem_of_getElem? (i := 3) rfl)) (by decide) (by decide)) (g := (mkF m 15 #[.val (.int p1), .val (.int p2), .val (.int (0 : Int32)), .val (.int (0 : Int32)), .unset, .unset, .unset] [(.int (0 : Int32))])) rfl (by rw [hml]; rfl) (argsL := [(.int (0 : Int32))]) (rest := []) (lenOf pd0 rfl) rfl (by show 2 * 0 + _ ≤ _; exact Nat.le_of_eq rfl) (hb hby at_15) (fun _ _ => ⟨rfl, e0, (by decide : 0 + 0 ≤ _), (by decide : 0 + 0 ≤ _)⟩)
      dsimp only [Pt.U, Pt.locs, Pt.cells, Pt.slots] at X2 l2 y2 z2 st2 hQ2
      subst l2 y2 z2
      obtain ⟨rfl, Nq2, e2⟩ := hQ2
      have N2 := Fr.app N0 Nq2
      refine Goes.by st2 ?_
      refine Goes.by (fun _ kz => XS.astore X2.here hx rfl (hb hby at_18) rfl rfl (l' := #[.val (.int p1), .val (.int p2), .val (.int (0 : Int32)), .val (.int (0 : Int32)), .val (.ref (w 0)), .unset, .unset]) rfl (XS.iloadN X2.here hx rfl (hb hby at_20) rfl kz)) ?_
      obtain ⟨_, _, ⟨T3, L3, k3, n3⟩, -, X3, ⟨Lc3, hQ3, l3, y3, z3⟩, st3⟩ := Jvm.LawKit.callS X2 hx (y := (⟨"com/example/nextkey/nextkey/lock/LockKindCoversPinLaw", "kind", "(I)Lcom/example/nextkey/nextkey/lock/LockKind;"⟩ : MethodName)) hown (mvT hZ (hw _ (List.mem_of_getElem? (i := 1) rfl))) (mvT hZ (hw _ (List.mem_of_getElem? (i := 2) rfl))) (mvT hZ (hw _ (List.mem_of_getElem? (i := 3) rfl))) (mvT hZ (hw _ (List.mem_of_getElem? (i := 4) rfl))) (by decide) (backOf (W := 0) (r1_0 l Z a0 hw [] h0 n0 Z0 w P) hZ (hw _ (List.mem_of_getElem? (i := 4) rfl)) (hw _ (List.mem_of_getElem? (i := 3) rfl)) (by decide) (by decide)) (g := (mkF m 21 #[.val (.int p1), .val (.int p2), .val (.int (0 : Int32)), .val (.int (0 : Int32)), .val (.ref (w 0)), .unset, .unset] [(.int (0 : Int32))])) rfl (by rw [hml]; rfl) (argsL := [(.int (0 : Int32))]) (rest := []) (lenOf pd0 rfl) rfl (by show 2 * 0 + _ ≤ _; exact Nat.le_of_eq rfl) (hb hby at_21) (fun _ _ => ⟨rfl, e2, (by decide : 0 + 0 ≤ _), (by decide : 0 + 0 ≤ _)⟩)
      dsimp only [Pt.U, Pt.locs, Pt.cells, Pt.slots] at X3 l3 y3 z3 st3 hQ3
      subst l3 y3 z3
      obtain ⟨rfl, Nq3, e3⟩ := hQ3
      have N3 := Fr.app N2 Nq3
      refine Goes.by st3 ?_
      refine Goes.by (fun _ kz => XS.astore X3.here hx rfl (hb hby at_24) rfl rfl (l' := #[.val (.int p1), .val (.int p2), .val (.int (0 : Int32)), .val (.int (0 : Int32)), .val (.ref (w 0)), .val (.ref (w 0)), .unset]) rfl (XS.iloadN X3.here hx rfl (hb hby at_26) rfl (XS.iconst X3.here hx rfl (hb hby at_27) kz))) ?_
      show Goes p e below (T3.setTop (mkF m 28 #[.val (.int p1), .val (.int p2), .val (.int (0 : Int32)), .val (.int (0 : Int32)), .val (.ref (w 0)), .val (.ref (w 0)), .unset] [(.int (4 : Int32)), (.int (0 : Int32))])) _
      refine Goes.by (fun _ kz => XS.icmpNo X3.here hx rfl (hb hby at_28) rfl (feq (by decide : ¬ ((0 : Int32) = (4 : Int32)))).1 (XS.iloadN X3.here hx rfl (hb hby at_31) rfl (XS.iconst X3.here hx rfl (hb hby at_32) kz))) ?_
      show Goes p e below (T3.setTop (mkF m 33 #[.val (.int p1), .val (.int p2), .val (.int (0 : Int32)), .val (.int (0 : Int32)), .val (.ref (w 0)), .val (.ref (w 0)), .unset] [(.int (4 : Int32)), (.int (0 : Int32))])) _
      refine Goes.by (fun _ kz => XS.icmpNo X3.here hx rfl (hb hby at_33) rfl (feq (by decide : ¬ ((0 : Int32) = (4 : Int32)))).1 (XS.iloadN X3.here hx rfl (hb hby at_36) rfl kz)) ?_
      obtain ⟨_, _, ⟨T4, L4, k4, n4⟩, -, X4, ⟨Lc4, hQ4, l4, y4, z4⟩, st4⟩ := Jvm.LawKit.callS X3 hx (y := (⟨"com/example/nextkey/nextkey/lock/LockKindCoversPinLaw", "parts", "(I)I"⟩ : MethodName)) hown (mvT hZ (hw _ (List.mem_of_getElem? (i := 10) rfl))) (mvT hZ (hw _ (List.mem_of_getElem? (i := 11) rfl))) (mvT hZ (hw _ (List.mem_of_getElem? (i := 3) rfl))) (mvT hZ (hw _ (List.mem_of_getElem? (i := 12) rfl))) (by decide) (backOf (W := 0) (r2_1 l Z a0 hw [] h0 n0 Z0 w P) hZ (hw _ (List.mem_of_getElem? (i := 12) rfl)) (hw _ (List.mem_of_getElem? (i := 3) rfl)) (by decide) (by decide)) (g := (mkF m 37 #[.val (.int p1), .val (.int p2), .val (.int (0 : Int32)), .val (.int (0 : Int32)), .val (.ref (w 0)), .val (.ref (w 0)), .unset] [(.int (0 : Int32))])) rfl (by rw [hml]; rfl) (argsL := [(.int (0 : Int32))]) (rest := []) (lenOf pd1 rfl) rfl (by show 2 * 0 + _ ≤ _; exact Nat.le_of_eq rfl) (hb hby at_37) (fun _ _ => ⟨rfl, e3, (by decide : 0 + 0 ≤ _), (by decide : 0 + 0 ≤ _)⟩)
      dsimp only [Pt.U, Pt.locs, Pt.cells, Pt.slots] at X4 l4 y4 z4 st4 hQ4
      subst l4 y4 z4
      obtain ⟨rfl, Nq4, e4⟩ := hQ4
      have N4 := Fr.app N3 Nq4
      refine Goes.by st4 ?_
      refine Goes.by (fun _ kz => XS.iloadN X4.here hx rfl (hb hby at_40) rfl kz) ?_
      obtain ⟨_, _, ⟨T5, L5, k5, n5⟩, -, X5, ⟨Lc5, hQ5, l5, y5, z5⟩, st5⟩ := Jvm.LawKit.callS X4 hx (y := (⟨"com/example/nextkey/nextkey/lock/LockKindCoversPinLaw", "parts", "(I)I"⟩ : MethodName)) hown (mvT hZ (hw _ (List.mem_of_getElem? (i := 10) rfl))) (mvT hZ (hw _ (List.mem_of_getElem? (i := 11) rfl))) (mvT hZ (hw _ (List.mem_of_getElem? (i := 3) rfl))) (mvT hZ (hw _ (List.mem_of_getElem? (i := 12) rfl))) (by decide) (backOf (W := 1) (r2_1 l Z a0 hw [] h0 n0 Z0 w P) hZ (hw _ (List.mem_of_getElem? (i := 12) rfl)) (hw _ (List.mem_of_getElem? (i := 3) rfl)) (by decide) (by decide)) (g := (mkF m 41 #[.val (.int p1), .val (.int p2), .val (.int (0 : Int32)), .val (.int (0 : Int32)), .val (.ref (w 0)), .val (.ref (w 0)), .unset] [(.int (0 : Int32)), (.int (1 : Int32))])) rfl (by rw [hml]; rfl) (argsL := [(.int (0 : Int32))]) (rest := [(.int (1 : Int32))]) (lenOf pd1 rfl) rfl (by show 2 * 0 + _ ≤ _; exact Nat.le_of_eq rfl) (hb hby at_41) (fun _ _ => ⟨rfl, e4, (by decide : 0 + 0 ≤ _), (by decide : 0 + 0 ≤ _)⟩)
      dsimp only [Pt.U, Pt.locs, Pt.cells, Pt.slots] at X5 l5 y5 z5 st5 hQ5
      subst l5 y5 z5
      obtain ⟨rfl, Nq5, e5⟩ := hQ5
      have N5 := Fr.app N4 Nq5
      refine Goes.by st5 ?_
      refine Goes.by (fun _ kz => XS.iconst X5.here hx rfl (hb hby at_44) (XS.ixor X5.here hx rfl (hb hby at_45) rfl kz)) ?_
      show Goes p e below (T5.setTop (mkF m 46 #[.val (.int p1), .val (.int p2), .val (.int (0 : Int32)), .val (.int (0 : Int32)), .val (.ref (w 0)), .val (.ref (w 0)), .unset] [(.int ((1 : Int32) ^^^ (-1 : Int32))), (.int (1 : Int32))])) _
      rw [show (((1 : Int32) ^^^ (-1 : Int32)) : Int32) = (-2 : Int32) from by decide]
      show Goes p e below (T5.setTop (mkF m 46 #[.val (.int p1), .val (.int p2), .val (.int (0 : Int32)), .val (.int (0 : Int32)), .val (.ref (w 0)), .val (.ref (w 0)), .unset] [(.int (-2 : Int32)), (.int (1 : Int32))])) _
      refine Goes.by (fun _ kz => XS.iand X5.here hx rfl (hb hby at_46) rfl kz) ?_
      show Goes p e below (T5.setTop (mkF m 47 #[.val (.int p1), .val (.int p2), .val (.int (0 : Int32)), .val (.int (0 : Int32)), .val (.ref (w 0)), .val (.ref (w 0)), .unset] [(.int ((1 : Int32) &&& (-2 : Int32)))])) _
      rw [show (((1 : Int32) &&& (-2 : Int32)) : Int32) = (0 : Int32) from by decide]
      show Goes p e below (T5.setTop (mkF m 47 #[.val (.int p1), .val (.int p2), .val (.int (0 : Int32)), .val (.int (0 : Int32)), .val (.ref (w 0)), .val (.ref (w 0)), .unset] [(.int (0 : Int32))])) _
      refine Goes.by (fun _ kz => XS.ifNo X5.here hx rfl (hb hby at_47) rfl ((if0 _ _).trans (teq (by decide : (0 : Int32) = (0 : Int32))).2) (XS.iconst X5.here hx rfl (hb hby at_50) (XS.goto X5.here hx rfl (pc0 := 51) (pc' := 55) rfl (hb hby at_51) (by decide) (by decide) kz))) ?_
      show Goes p e below (T5.setTop (mkF m 55 #[.val (.int p1), .val (.int p2), .val (.int (0 : Int32)), .val (.int (0 : Int32)), .val (.ref (w 0)), .val (.ref (w 0)), .unset] [(.int (1 : Int32))])) _
      refine Goes.by (fun _ kz => XS.istore X5.here hx rfl (hb hby at_55) rfl (l' := #[.val (.int p1), .val (.int p2), .val (.int (0 : Int32)), .val (.int (0 : Int32)), .val (.ref (w 0)), .val (.ref (w 0)), .val (.int (1 : Int32))]) rfl (XS.aload X5.here hx rfl (hb hby at_57) rfl rfl (XS.aload X5.here hx rfl (hb hby at_59) rfl rfl kz))) ?_
      obtain ⟨cq7, kq7, q7a, q7b, q7c⟩ := isOf hZ e5 P.2.1
      obtain ⟨_, _, ⟨T7, L7, k7, n7⟩, -, X7, ⟨Lc7, hQ7, l7, y7, z7⟩, st7⟩ := X5.virtualBack hx (y := (⟨"com/example/nextkey/nextkey/lock/LockKind", "covers", "(Lcom/example/nextkey/nextkey/lock/LockKind;)Z"⟩ : MethodName)) (z := (⟨"com/example/nextkey/nextkey/lock/LockKind", "covers", "(Lcom/example/nextkey/nextkey/lock/LockKind;)Z"⟩ : MethodName)) hown (mvT hZ (hw _ (List.mem_of_getElem? (i := 13) rfl))) (mvT hZ (hw _ (List.mem_of_getElem? (i := 14) rfl))) (notFace_of_selects (args := #[]) (mvT hZ (hw _ (List.mem_of_getElem? (i := 16) rfl)))) (mvT hZ (hw _ (List.mem_of_getElem? (i := 16) rfl))) (mvT hZ (hw _ (List.mem_of_getElem? (i := 15) rfl))) (by decide) (backOf (W := 0) (r3_2 l Z a0 hw [] h0 n0 Z0 w P) hZ (hw _ (List.mem_of_getElem? (i := 17) rfl)) (hw _ (List.mem_of_getElem? (i := 6) rfl)) (by decide) (by decide)) q7a q7c (g := (mkF m 61 #[.val (.int p1), .val (.int p2), .val (.int (0 : Int32)), .val (.int (0 : Int32)), .val (.ref (w 0)), .val (.ref (w 0)), .val (.int (1 : Int32))] [(.ref (w 0)), (.ref (w 0))])) rfl (by rw [hml]; rfl) (Steps.refl _) (argsL := [(.ref (w 0))]) (rest := []) (lenOf pd2 rfl) rfl (by show 2 * 0 + _ ≤ _; exact Nat.le_of_eq rfl) (hb hby at_61) (fun _ _ => ⟨rfl, e5, (by decide : 0 + 0 ≤ _), (by decide : 0 + 0 ≤ _)⟩)
      dsimp only [Pt.U, Pt.locs, Pt.cells, Pt.slots] at X7 l7 y7 z7 st7 hQ7
      subst l7 y7 z7
      obtain ⟨rfl, Nq7, e7⟩ := hQ7
      have N7 := Fr.app N5 Nq7
      refine Goes.tr st7 ?_
      refine Goes.by (fun _ kz => XS.iload X7.here hx rfl (hb hby at_64) rfl (XS.icmpNo X7.here hx rfl (hb hby at_66) rfl (teq (by decide : (1 : Int32) = (1 : Int32))).2 (XS.iconst X7.here hx rfl (hb hby at_69) kz))) ?_
      show Goes p e below (T7.setTop (mkF m 70 #[.val (.int p1), .val (.int p2), .val (.int (0 : Int32)), .val (.int (0 : Int32)), .val (.ref (w 0)), .val (.ref (w 0)), .val (.int (1 : Int32))] [(.int (1 : Int32))])) _
      refine Goes.by (fun _ kz => XS.goto X7.here hx rfl (pc0 := 70) (pc' := 74) rfl (hb hby at_70) (by decide) (by decide) kz) ?_
      show Goes p e below (T7.setTop (mkF m 74 #[.val (.int p1), .val (.int p2), .val (.int (0 : Int32)), .val (.int (0 : Int32)), .val (.ref (w 0)), .val (.ref (w 0)), .val (.int (1 : Int32))] [(.int (1 : Int32))])) _
      obtain ⟨fs, hr, hrun, hended, hW, hsame⟩ := X7.leave (v := some (.int (1 : Int32))) (fun h => by rw [Bd.returns] at h; cases h)
      exact ⟨_, _, retN X7 hx (t := .boolean) Bd.returns (by simp) (hb hby at_74) hr, hrun, hended, _, _, rfl, ⟨rfl, N7⟩, ⟨_, rfl⟩, hW, hsame.mono (by decide) (by decide)⟩
    · show Goes p e below (s₁.setTop (mkF m 14 #[.val (.int p1), .val (.int p2), .val (.int (0 : Int32)), .val (.int (1 : Int32)), .unset, .unset, .unset] [])) _
      refine Goes.by (fun _ kz => XS.iloadN X0.here hx rfl (hb hby at_14) rfl kz) ?_
      obtain ⟨_, _, ⟨T8, L8, k8, n8⟩, -, X8, ⟨Lc8, hQ8, l8, y8, z8⟩, st8⟩ := Jvm.LawKit.callS X0 hx (y := (⟨"com/example/nextkey/nextkey/lock/LockKindCoversPinLaw", "kind", "(I)Lcom/example/nextkey/nextkey/lock/LockKind;"⟩ : MethodName)) hown (mvT hZ (hw _ (List.mem_of_getElem? (i := 1) rfl))) (mvT hZ (hw _ (List.mem_of_getElem? (i := 2) rfl))) (mvT hZ (hw _ (List.mem_of_getElem? (i := 3) rfl))) (mvT hZ (hw _ (List.mem_of_getElem? (i := 4) rfl))) (by decide) (backOf (W := 0) (r1_0 l Z a0 hw [] h0 n0 Z0 w P) hZ (hw _ (List.mem_of_getElem? (i := 4) rfl)) (hw _ (List.mem_of_getElem? (i := 3) rfl)) (by decide) (by decide)) (g := (mkF m 15 #[.val (.int p1), .val (.int p2), .val (.int (0 : Int32)), .val (.int (1 : Int32)), .unset, .unset, .unset] [(.int (0 : Int32))])) rfl (by rw [hml]; rfl) (argsL := [(.int (0 : Int32))]) (rest := []) (lenOf pd0 rfl) rfl (by show 2 * 0 + _ ≤ _; exact Nat.le_of_eq rfl) (hb hby at_15) (fun _ _ => ⟨rfl, e0, (by decide : 0 + 0 ≤ _), (by decide : 0 + 0 ≤ _)⟩)
      dsimp only [Pt.U, Pt.locs, Pt.cells, Pt.slots] at X8 l8 y8 z8 st8 hQ8
      subst l8 y8 z8
      obtain ⟨rfl, Nq8, e8⟩ := hQ8
      have N8 := Fr.app N0 Nq8
      refine Goes.by st8 ?_
      refine Goes.by (fun _ kz => XS.astore X8.here hx rfl (hb hby at_18) rfl rfl (l' := #[.val (.int p1), .val (.int p2), .val (.int (0 : Int32)), .val (.int (1 : Int32)), .val (.ref (w 0)), .unset, .unset]) rfl (XS.iloadN X8.here hx rfl (hb hby at_20) rfl kz)) ?_
      obtain ⟨_, _, ⟨T10, L10, k10, n10⟩, -, X10, ⟨Lc10, hQ10, l10, y10, z10⟩, st10⟩ := Jvm.LawKit.callS X8 hx (y := (⟨"com/example/nextkey/nextkey/lock/LockKindCoversPinLaw", "kind", "(I)Lcom/example/nextkey/nextkey/lock/LockKind;"⟩ : MethodName)) hown (mvT hZ (hw _ (List.mem_of_getElem? (i := 1) rfl))) (mvT hZ (hw _ (List.mem_of_getElem? (i := 2) rfl))) (mvT hZ (hw _ (List.mem_of_getElem? (i := 3) rfl))) (mvT hZ (hw _ (List.mem_of_getElem? (i := 4) rfl))) (by decide) (backOf (W := 0) (r1_3 l Z a0 hw [] h0 n0 Z0 w P) hZ (hw _ (List.mem_of_getElem? (i := 4) rfl)) (hw _ (List.mem_of_getElem? (i := 3) rfl)) (by decide) (by decide)) (g := (mkF m 21 #[.val (.int p1), .val (.int p2), .val (.int (0 : Int32)), .val (.int (1 : Int32)), .val (.ref (w 0)), .unset, .unset] [(.int (1 : Int32))])) rfl (by rw [hml]; rfl) (argsL := [(.int (1 : Int32))]) (rest := []) (lenOf pd0 rfl) rfl (by show 2 * 0 + _ ≤ _; exact Nat.le_of_eq rfl) (hb hby at_21) (fun _ _ => ⟨rfl, e8, (by decide : 0 + 0 ≤ _), (by decide : 0 + 0 ≤ _)⟩)
      dsimp only [Pt.U, Pt.locs, Pt.cells, Pt.slots] at X10 l10 y10 z10 st10 hQ10
      subst l10 y10 z10
      obtain ⟨rfl, Nq10, e10⟩ := hQ10
      have N10 := Fr.app N8 Nq10
      refine Goes.by st10 ?_
      refine Goes.by (fun _ kz => XS.astore X10.here hx rfl (hb hby at_24) rfl rfl (l' := #[.val (.int p1), .val (.int p2), .val (.int (0 : Int32)), .val (.int (1 : Int32)), .val (.ref (w 0)), .val (.ref (w 3)), .unset]) rfl (XS.iloadN X10.here hx rfl (hb hby at_26) rfl (XS.iconst X10.here hx rfl (hb hby at_27) kz))) ?_
      show Goes p e below (T10.setTop (mkF m 28 #[.val (.int p1), .val (.int p2), .val (.int (0 : Int32)), .val (.int (1 : Int32)), .val (.ref (w 0)), .val (.ref (w 3)), .unset] [(.int (4 : Int32)), (.int (0 : Int32))])) _
      refine Goes.by (fun _ kz => XS.icmpNo X10.here hx rfl (hb hby at_28) rfl (feq (by decide : ¬ ((0 : Int32) = (4 : Int32)))).1 (XS.iloadN X10.here hx rfl (hb hby at_31) rfl (XS.iconst X10.here hx rfl (hb hby at_32) kz))) ?_
      show Goes p e below (T10.setTop (mkF m 33 #[.val (.int p1), .val (.int p2), .val (.int (0 : Int32)), .val (.int (1 : Int32)), .val (.ref (w 0)), .val (.ref (w 3)), .unset] [(.int (4 : Int32)), (.int (1 : Int32))])) _
      refine Goes.by (fun _ kz => XS.icmpNo X10.here hx rfl (hb hby at_33) rfl (feq (by decide : ¬ ((1 : Int32) = (4 : Int32)))).1 (XS.iloadN X10.here hx rfl (hb hby at_36) rfl kz)) ?_
      obtain ⟨_, _, ⟨T11, L11, k11, n11⟩, -, X11, ⟨Lc11, hQ11, l11, y11, z11⟩, st11⟩ := Jvm.LawKit.callS X10 hx (y := (⟨"com/example/nextkey/nextkey/lock/LockKindCoversPinLaw", "parts", "(I)I"⟩ : MethodName)) hown (mvT hZ (hw _ (List.mem_of_getElem? (i := 10) rfl))) (mvT hZ (hw _ (List.mem_of_getElem? (i := 11) rfl))) (mvT hZ (hw _ (List.mem_of_getElem? (i := 3) rfl))) (mvT hZ (hw _ (List.mem_of_getElem? (i := 12) rfl))) (by decide) (backOf (W := 0) (r2_4 l Z a0 hw [] h0 n0 Z0 w P) hZ (hw _ (List.mem_of_getElem? (i := 12) rfl)) (hw _ (List.mem_of_getElem? (i := 3) rfl)) (by decide) (by decide)) (g := (mkF m 37 #[.val (.int p1), .val (.int p2), .val (.int (0 : Int32)), .val (.int (1 : Int32)), .val (.ref (w 0)), .val (.ref (w 3)), .unset] [(.int (1 : Int32))])) rfl (by rw [hml]; rfl) (argsL := [(.int (1 : Int32))]) (rest := []) (lenOf pd1 rfl) rfl (by show 2 * 0 + _ ≤ _; exact Nat.le_of_eq rfl) (hb hby at_37) (fun _ _ => ⟨rfl, e10, (by decide : 0 + 0 ≤ _), (by decide : 0 + 0 ≤ _)⟩)
      dsimp only [Pt.U, Pt.locs, Pt.cells, Pt.slots] at X11 l11 y11 z11 st11 hQ11
      subst l11 y11 z11
      obtain ⟨rfl, Nq11, e11⟩ := hQ11
      have N11 := Fr.app N10 Nq11
      refine Goes.by st11 ?_
      refine Goes.by (fun _ kz => XS.iloadN X11.here hx rfl (hb hby at_40) rfl kz) ?_
      obtain ⟨_, _, ⟨T12, L12, k12, n12⟩, -, X12, ⟨Lc12, hQ12, l12, y12, z12⟩, st12⟩ := Jvm.LawKit.callS X11 hx (y := (⟨"com/example/nextkey/nextkey/lock/LockKindCoversPinLaw", "parts", "(I)I"⟩ : MethodName)) hown (mvT hZ (hw _ (List.mem_of_getElem? (i := 10) rfl))) (mvT hZ (hw _ (List.mem_of_getElem? (i := 11) rfl))) (mvT hZ (hw _ (List.mem_of_getElem? (i := 3) rfl))) (mvT hZ (hw _ (List.mem_of_getElem? (i := 12) rfl))) (by decide) (backOf (W := 1) (r2_1 l Z a0 hw [] h0 n0 Z0 w P) hZ (hw _ (List.mem_of_getElem? (i := 12) rfl)) (hw _ (List.mem_of_getElem? (i := 3) rfl)) (by decide) (by decide)) (g := (mkF m 41 #[.val (.int p1), .val (.int p2), .val (.int (0 : Int32)), .val (.int (1 : Int32)), .val (.ref (w 0)), .val (.ref (w 3)), .unset] [(.int (0 : Int32)), (.int (2 : Int32))])) rfl (by rw [hml]; rfl) (argsL := [(.int (0 : Int32))]) (rest := [(.int (2 : Int32))]) (lenOf pd1 rfl) rfl (by show 2 * 0 + _ ≤ _; exact Nat.le_of_eq rfl) (hb hby at_41) (fun _ _ => ⟨rfl, e11, (by decide : 0 + 0 ≤ _), (by decide : 0 + 0 ≤ _)⟩)
      dsimp only [Pt.U, Pt.locs, Pt.cells, Pt.slots] at X12 l12 y12 z12 st12 hQ12
      subst l12 y12 z12
      obtain ⟨rfl, Nq12, e12⟩ := hQ12
      have N12 := Fr.app N11 Nq12
      refine Goes.by st12 ?_
      refine Goes.by (fun _ kz => XS.iconst X12.here hx rfl (hb hby at_44) (XS.ixor X12.here hx rfl (hb hby at_45) rfl kz)) ?_
      show Goes p e below (T12.setTop (mkF m 46 #[.val (.int p1), .val (.int p2), .val (.int (0 : Int32)), .val (.int (1 : Int32)), .val (.ref (w 0)), .val (.ref (w 3)), .unset] [(.int ((1 : Int32) ^^^ (-1 : Int32))), (.int (2 : Int32))])) _
      rw [show (((1 : Int32) ^^^ (-1 : Int32)) : Int32) = (-2 : Int32) from by decide]
      show Goes p e below (T12.setTop (mkF m 46 #[.val (.int p1), .val (.int p2), .val (.int (0 : Int32)), .val (.int (1 : Int32)), .val (.ref (w 0)), .val (.ref (w 3)), .unset] [(.int (-2 : Int32)), (.int (2 : Int32))])) _
      refine Goes.by (fun _ kz => XS.iand X12.here hx rfl (hb hby at_46) rfl kz) ?_
      show Goes p e below (T12.setTop (mkF m 47 #[.val (.int p1), .val (.int p2), .val (.int (0 : Int32)), .val (.int (1 : Int32)), .val (.ref (w 0)), .val (.ref (w 3)), .unset] [(.int ((2 : Int32) &&& (-2 : Int32)))])) _
      rw [show (((2 : Int32) &&& (-2 : Int32)) : Int32) = (2 : Int32) from by decide]
      show Goes p e below (T12.setTop (mkF m 47 #[.val (.int p1), .val (.int p2), .val (.int (0 : Int32)), .val (.int (1 : Int32)), .val (.ref (w 0)), .val (.ref (w 3)), .unset] [(.int (2 : Int32))])) _
      refine Goes.by (fun _ kz => XS.ifYes X12.here hx rfl (pc0 := 47) (pc' := 54) rfl (hb hby at_47) rfl ((if0 _ _).trans (feq (by decide : ¬ ((2 : Int32) = (0 : Int32)))).2) (by decide) (by decide) (XS.iconst X12.here hx rfl (hb hby at_54) (XS.istore X12.here hx rfl (hb hby at_55) rfl (l' := #[.val (.int p1), .val (.int p2), .val (.int (0 : Int32)), .val (.int (1 : Int32)), .val (.ref (w 0)), .val (.ref (w 3)), .val (.int (0 : Int32))]) rfl kz))) ?_
      show Goes p e below (T12.setTop (mkF m 57 #[.val (.int p1), .val (.int p2), .val (.int (0 : Int32)), .val (.int (1 : Int32)), .val (.ref (w 0)), .val (.ref (w 3)), .val (.int (0 : Int32))] [])) _
      refine Goes.by (fun _ kz => XS.aload X12.here hx rfl (hb hby at_57) rfl rfl (XS.aload X12.here hx rfl (hb hby at_59) rfl rfl kz)) ?_
      obtain ⟨cq15, kq15, q15a, q15b, q15c⟩ := isOf hZ e12 P.2.1
      obtain ⟨_, _, ⟨T15, L15, k15, n15⟩, -, X15, ⟨Lc15, hQ15, l15, y15, z15⟩, st15⟩ := X12.virtualBack hx (y := (⟨"com/example/nextkey/nextkey/lock/LockKind", "covers", "(Lcom/example/nextkey/nextkey/lock/LockKind;)Z"⟩ : MethodName)) (z := (⟨"com/example/nextkey/nextkey/lock/LockKind", "covers", "(Lcom/example/nextkey/nextkey/lock/LockKind;)Z"⟩ : MethodName)) hown (mvT hZ (hw _ (List.mem_of_getElem? (i := 13) rfl))) (mvT hZ (hw _ (List.mem_of_getElem? (i := 14) rfl))) (notFace_of_selects (args := #[]) (mvT hZ (hw _ (List.mem_of_getElem? (i := 16) rfl)))) (mvT hZ (hw _ (List.mem_of_getElem? (i := 16) rfl))) (mvT hZ (hw _ (List.mem_of_getElem? (i := 15) rfl))) (by decide) (backOf (W := 0) (r3_5 l Z a0 hw [] h0 n0 Z0 w P) hZ (hw _ (List.mem_of_getElem? (i := 17) rfl)) (hw _ (List.mem_of_getElem? (i := 6) rfl)) (by decide) (by decide)) q15a q15c (g := (mkF m 61 #[.val (.int p1), .val (.int p2), .val (.int (0 : Int32)), .val (.int (1 : Int32)), .val (.ref (w 0)), .val (.ref (w 3)), .val (.int (0 : Int32))] [(.ref (w 3)), (.ref (w 0))])) rfl (by rw [hml]; rfl) (Steps.refl _) (argsL := [(.ref (w 3))]) (rest := []) (lenOf pd2 rfl) rfl (by show 2 * 0 + _ ≤ _; exact Nat.le_of_eq rfl) (hb hby at_61) (fun _ _ => ⟨rfl, e12, (by decide : 0 + 0 ≤ _), (by decide : 0 + 0 ≤ _)⟩)
      dsimp only [Pt.U, Pt.locs, Pt.cells, Pt.slots] at X15 l15 y15 z15 st15 hQ15
      subst l15 y15 z15
      obtain ⟨rfl, Nq15, e15⟩ := hQ15
      have N15 := Fr.app N12 Nq15
      refine Goes.tr st15 ?_
      refine Goes.by (fun _ kz => XS.iload X15.here hx rfl (hb hby at_64) rfl (XS.icmpNo X15.here hx rfl (hb hby at_66) rfl (teq (by decide : (0 : Int32) = (0 : Int32))).2 (XS.iconst X15.here hx rfl (hb hby at_69) kz))) ?_
      show Goes p e below (T15.setTop (mkF m 70 #[.val (.int p1), .val (.int p2), .val (.int (0 : Int32)), .val (.int (1 : Int32)), .val (.ref (w 0)), .val (.ref (w 3)), .val (.int (0 : Int32))] [(.int (1 : Int32))])) _
      refine Goes.by (fun _ kz => XS.goto X15.here hx rfl (pc0 := 70) (pc' := 74) rfl (hb hby at_70) (by decide) (by decide) kz) ?_
      show Goes p e below (T15.setTop (mkF m 74 #[.val (.int p1), .val (.int p2), .val (.int (0 : Int32)), .val (.int (1 : Int32)), .val (.ref (w 0)), .val (.ref (w 3)), .val (.int (0 : Int32))] [(.int (1 : Int32))])) _
      obtain ⟨fs, hr, hrun, hended, hW, hsame⟩ := X15.leave (v := some (.int (1 : Int32))) (fun h => by rw [Bd.returns] at h; cases h)
      exact ⟨_, _, retN X15 hx (t := .boolean) Bd.returns (by simp) (hb hby at_74) hr, hrun, hended, _, _, rfl, ⟨rfl, N15⟩, ⟨_, rfl⟩, hW, hsame.mono (by decide) (by decide)⟩
    · show Goes p e below (s₁.setTop (mkF m 14 #[.val (.int p1), .val (.int p2), .val (.int (0 : Int32)), .val (.int (2 : Int32)), .unset, .unset, .unset] [])) _
      refine Goes.by (fun _ kz => XS.iloadN X0.here hx rfl (hb hby at_14) rfl kz) ?_
      obtain ⟨_, _, ⟨T16, L16, k16, n16⟩, -, X16, ⟨Lc16, hQ16, l16, y16, z16⟩, st16⟩ := Jvm.LawKit.callS X0 hx (y := (⟨"com/example/nextkey/nextkey/lock/LockKindCoversPinLaw", "kind", "(I)Lcom/example/nextkey/nextkey/lock/LockKind;"⟩ : MethodName)) hown (mvT hZ (hw _ (List.mem_of_getElem? (i := 1) rfl))) (mvT hZ (hw _ (List.mem_of_getElem? (i := 2) rfl))) (mvT hZ (hw _ (List.mem_of_getElem? (i := 3) rfl))) (mvT hZ (hw _ (List.mem_of_getElem? (i := 4) rfl))) (by decide) (backOf (W := 0) (r1_0 l Z a0 hw [] h0 n0 Z0 w P) hZ (hw _ (List.mem_of_getElem? (i := 4) rfl)) (hw _ (List.mem_of_getElem? (i := 3) rfl)) (by decide) (by decide)) (g := (mkF m 15 #[.val (.int p1), .val (.int p2), .val (.int (0 : Int32)), .val (.int (2 : Int32)), .unset, .unset, .unset] [(.int (0 : Int32))])) rfl (by rw [hml]; rfl) (argsL := [(.int (0 : Int32))]) (rest := []) (lenOf pd0 rfl) rfl (by show 2 * 0 + _ ≤ _; exact Nat.le_of_eq rfl) (hb hby at_15) (fun _ _ => ⟨rfl, e0, (by decide : 0 + 0 ≤ _), (by decide : 0 + 0 ≤ _)⟩)
      dsimp only [Pt.U, Pt.locs, Pt.cells, Pt.slots] at X16 l16 y16 z16 st16 hQ16
      subst l16 y16 z16
      obtain ⟨rfl, Nq16, e16⟩ := hQ16
      have N16 := Fr.app N0 Nq16
      refine Goes.by st16 ?_
      refine Goes.by (fun _ kz => XS.astore X16.here hx rfl (hb hby at_18) rfl rfl (l' := #[.val (.int p1), .val (.int p2), .val (.int (0 : Int32)), .val (.int (2 : Int32)), .val (.ref (w 0)), .unset, .unset]) rfl (XS.iloadN X16.here hx rfl (hb hby at_20) rfl kz)) ?_
      obtain ⟨_, _, ⟨T18, L18, k18, n18⟩, -, X18, ⟨Lc18, hQ18, l18, y18, z18⟩, st18⟩ := Jvm.LawKit.callS X16 hx (y := (⟨"com/example/nextkey/nextkey/lock/LockKindCoversPinLaw", "kind", "(I)Lcom/example/nextkey/nextkey/lock/LockKind;"⟩ : MethodName)) hown (mvT hZ (hw _ (List.mem_of_getElem? (i := 1) rfl))) (mvT hZ (hw _ (List.mem_of_getElem? (i := 2) rfl))) (mvT hZ (hw _ (List.mem_of_getElem? (i := 3) rfl))) (mvT hZ (hw _ (List.mem_of_getElem? (i := 4) rfl))) (by decide) (backOf (W := 0) (r1_6 l Z a0 hw [] h0 n0 Z0 w P) hZ (hw _ (List.mem_of_getElem? (i := 4) rfl)) (hw _ (List.mem_of_getElem? (i := 3) rfl)) (by decide) (by decide)) (g := (mkF m 21 #[.val (.int p1), .val (.int p2), .val (.int (0 : Int32)), .val (.int (2 : Int32)), .val (.ref (w 0)), .unset, .unset] [(.int (2 : Int32))])) rfl (by rw [hml]; rfl) (argsL := [(.int (2 : Int32))]) (rest := []) (lenOf pd0 rfl) rfl (by show 2 * 0 + _ ≤ _; exact Nat.le_of_eq rfl) (hb hby at_21) (fun _ _ => ⟨rfl, e16, (by decide : 0 + 0 ≤ _), (by decide : 0 + 0 ≤ _)⟩)
      dsimp only [Pt.U, Pt.locs, Pt.cells, Pt.slots] at X18 l18 y18 z18 st18 hQ18
      subst l18 y18 z18
      obtain ⟨rfl, Nq18, e18⟩ := hQ18
      have N18 := Fr.app N16 Nq18
      refine Goes.by st18 ?_
      refine Goes.by (fun _ kz => XS.astore X18.here hx rfl (hb hby at_24) rfl rfl (l' := #[.val (.int p1), .val (.int p2), .val (.int (0 : Int32)), .val (.int (2 : Int32)), .val (.ref (w 0)), .val (.ref (w 4)), .unset]) rfl (XS.iloadN X18.here hx rfl (hb hby at_26) rfl (XS.iconst X18.here hx rfl (hb hby at_27) kz))) ?_
      show Goes p e below (T18.setTop (mkF m 28 #[.val (.int p1), .val (.int p2), .val (.int (0 : Int32)), .val (.int (2 : Int32)), .val (.ref (w 0)), .val (.ref (w 4)), .unset] [(.int (4 : Int32)), (.int (0 : Int32))])) _
      refine Goes.by (fun _ kz => XS.icmpNo X18.here hx rfl (hb hby at_28) rfl (feq (by decide : ¬ ((0 : Int32) = (4 : Int32)))).1 (XS.iloadN X18.here hx rfl (hb hby at_31) rfl (XS.iconst X18.here hx rfl (hb hby at_32) kz))) ?_
      show Goes p e below (T18.setTop (mkF m 33 #[.val (.int p1), .val (.int p2), .val (.int (0 : Int32)), .val (.int (2 : Int32)), .val (.ref (w 0)), .val (.ref (w 4)), .unset] [(.int (4 : Int32)), (.int (2 : Int32))])) _
      refine Goes.by (fun _ kz => XS.icmpNo X18.here hx rfl (hb hby at_33) rfl (feq (by decide : ¬ ((2 : Int32) = (4 : Int32)))).1 (XS.iloadN X18.here hx rfl (hb hby at_36) rfl kz)) ?_
      obtain ⟨_, _, ⟨T19, L19, k19, n19⟩, -, X19, ⟨Lc19, hQ19, l19, y19, z19⟩, st19⟩ := Jvm.LawKit.callS X18 hx (y := (⟨"com/example/nextkey/nextkey/lock/LockKindCoversPinLaw", "parts", "(I)I"⟩ : MethodName)) hown (mvT hZ (hw _ (List.mem_of_getElem? (i := 10) rfl))) (mvT hZ (hw _ (List.mem_of_getElem? (i := 11) rfl))) (mvT hZ (hw _ (List.mem_of_getElem? (i := 3) rfl))) (mvT hZ (hw _ (List.mem_of_getElem? (i := 12) rfl))) (by decide) (backOf (W := 0) (r2_7 l Z a0 hw [] h0 n0 Z0 w P) hZ (hw _ (List.mem_of_getElem? (i := 12) rfl)) (hw _ (List.mem_of_getElem? (i := 3) rfl)) (by decide) (by decide)) (g := (mkF m 37 #[.val (.int p1), .val (.int p2), .val (.int (0 : Int32)), .val (.int (2 : Int32)), .val (.ref (w 0)), .val (.ref (w 4)), .unset] [(.int (2 : Int32))])) rfl (by rw [hml]; rfl) (argsL := [(.int (2 : Int32))]) (rest := []) (lenOf pd1 rfl) rfl (by show 2 * 0 + _ ≤ _; exact Nat.le_of_eq rfl) (hb hby at_37) (fun _ _ => ⟨rfl, e18, (by decide : 0 + 0 ≤ _), (by decide : 0 + 0 ≤ _)⟩)
      dsimp only [Pt.U, Pt.locs, Pt.cells, Pt.slots] at X19 l19 y19 z19 st19 hQ19
      subst l19 y19 z19
      obtain ⟨rfl, Nq19, e19⟩ := hQ19
      have N19 := Fr.app N18 Nq19
      refine Goes.by st19 ?_
      refine Goes.by (fun _ kz => XS.iloadN X19.here hx rfl (hb hby at_40) rfl kz) ?_
      obtain ⟨_, _, ⟨T20, L20, k20, n20⟩, -, X20, ⟨Lc20, hQ20, l20, y20, z20⟩, st20⟩ := Jvm.LawKit.callS X19 hx (y := (⟨"com/example/nextkey/nextkey/lock/LockKindCoversPinLaw", "parts", "(I)I"⟩ : MethodName)) hown (mvT hZ (hw _ (List.mem_of_getElem? (i := 10) rfl))) (mvT hZ (hw _ (List.mem_of_getElem? (i := 11) rfl))) (mvT hZ (hw _ (List.mem_of_getElem? (i := 3) rfl))) (mvT hZ (hw _ (List.mem_of_getElem? (i := 12) rfl))) (by decide) (backOf (W := 1) (r2_1 l Z a0 hw [] h0 n0 Z0 w P) hZ (hw _ (List.mem_of_getElem? (i := 12) rfl)) (hw _ (List.mem_of_getElem? (i := 3) rfl)) (by decide) (by decide)) (g := (mkF m 41 #[.val (.int p1), .val (.int p2), .val (.int (0 : Int32)), .val (.int (2 : Int32)), .val (.ref (w 0)), .val (.ref (w 4)), .unset] [(.int (0 : Int32)), (.int (4 : Int32))])) rfl (by rw [hml]; rfl) (argsL := [(.int (0 : Int32))]) (rest := [(.int (4 : Int32))]) (lenOf pd1 rfl) rfl (by show 2 * 0 + _ ≤ _; exact Nat.le_of_eq rfl) (hb hby at_41) (fun _ _ => ⟨rfl, e19, (by decide : 0 + 0 ≤ _), (by decide : 0 + 0 ≤ _)⟩)
      dsimp only [Pt.U, Pt.locs, Pt.cells, Pt.slots] at X20 l20 y20 z20 st20 hQ20
      subst l20 y20 z20
      obtain ⟨rfl, Nq20, e20⟩ := hQ20
      have N20 := Fr.app N19 Nq20
      refine Goes.by st20 ?_
      refine Goes.by (fun _ kz => XS.iconst X20.here hx rfl (hb hby at_44) (XS.ixor X20.here hx rfl (hb hby at_45) rfl kz)) ?_
      show Goes p e below (T20.setTop (mkF m 46 #[.val (.int p1), .val (.int p2), .val (.int (0 : Int32)), .val (.int (2 : Int32)), .val (.ref (w 0)), .val (.ref (w 4)), .unset] [(.int ((1 : Int32) ^^^ (-1 : Int32))), (.int (4 : Int32))])) _
      rw [show (((1 : Int32) ^^^ (-1 : Int32)) : Int32) = (-2 : Int32) from by decide]
      show Goes p e below (T20.setTop (mkF m 46 #[.val (.int p1), .val (.int p2), .val (.int (0 : Int32)), .val (.int (2 : Int32)), .val (.ref (w 0)), .val (.ref (w 4)), .unset] [(.int (-2 : Int32)), (.int (4 : Int32))])) _
      refine Goes.by (fun _ kz => XS.iand X20.here hx rfl (hb hby at_46) rfl kz) ?_
      show Goes p e below (T20.setTop (mkF m 47 #[.val (.int p1), .val (.int p2), .val (.int (0 : Int32)), .val (.int (2 : Int32)), .val (.ref (w 0)), .val (.ref (w 4)), .unset] [(.int ((4 : Int32) &&& (-2 : Int32)))])) _
      rw [show (((4 : Int32) &&& (-2 : Int32)) : Int32) = (4 : Int32) from by decide]
      show Goes p e below (T20.setTop (mkF m 47 #[.val (.int p1), .val (.int p2), .val (.int (0 : Int32)), .val (.int (2 : Int32)), .val (.ref (w 0)), .val (.ref (w 4)), .unset] [(.int (4 : Int32))])) _
      refine Goes.by (fun _ kz => XS.ifYes X20.here hx rfl (pc0 := 47) (pc' := 54) rfl (hb hby at_47) rfl ((if0 _ _).trans (feq (by decide : ¬ ((4 : Int32) = (0 : Int32)))).2) (by decide) (by decide) (XS.iconst X20.here hx rfl (hb hby at_54) (XS.istore X20.here hx rfl (hb hby at_55) rfl (l' := #[.val (.int p1), .val (.int p2), .val (.int (0 : Int32)), .val (.int (2 : Int32)), .val (.ref (w 0)), .val (.ref (w 4)), .val (.int (0 : Int32))]) rfl kz))) ?_
      show Goes p e below (T20.setTop (mkF m 57 #[.val (.int p1), .val (.int p2), .val (.int (0 : Int32)), .val (.int (2 : Int32)), .val (.ref (w 0)), .val (.ref (w 4)), .val (.int (0 : Int32))] [])) _
      refine Goes.by (fun _ kz => XS.aload X20.here hx rfl (hb hby at_57) rfl rfl (XS.aload X20.here hx rfl (hb hby at_59) rfl rfl kz)) ?_
      obtain ⟨cq23, kq23, q23a, q23b, q23c⟩ := isOf hZ e20 P.2.1
      obtain ⟨_, _, ⟨T23, L23, k23, n23⟩, -, X23, ⟨Lc23, hQ23, l23, y23, z23⟩, st23⟩ := X20.virtualBack hx (y := (⟨"com/example/nextkey/nextkey/lock/LockKind", "covers", "(Lcom/example/nextkey/nextkey/lock/LockKind;)Z"⟩ : MethodName)) (z := (⟨"com/example/nextkey/nextkey/lock/LockKind", "covers", "(Lcom/example/nextkey/nextkey/lock/LockKind;)Z"⟩ : MethodName)) hown (mvT hZ (hw _ (List.mem_of_getElem? (i := 13) rfl))) (mvT hZ (hw _ (List.mem_of_getElem? (i := 14) rfl))) (notFace_of_selects (args := #[]) (mvT hZ (hw _ (List.mem_of_getElem? (i := 16) rfl)))) (mvT hZ (hw _ (List.mem_of_getElem? (i := 16) rfl))) (mvT hZ (hw _ (List.mem_of_getElem? (i := 15) rfl))) (by decide) (backOf (W := 0) (r3_8 l Z a0 hw [] h0 n0 Z0 w P) hZ (hw _ (List.mem_of_getElem? (i := 17) rfl)) (hw _ (List.mem_of_getElem? (i := 6) rfl)) (by decide) (by decide)) q23a q23c (g := (mkF m 61 #[.val (.int p1), .val (.int p2), .val (.int (0 : Int32)), .val (.int (2 : Int32)), .val (.ref (w 0)), .val (.ref (w 4)), .val (.int (0 : Int32))] [(.ref (w 4)), (.ref (w 0))])) rfl (by rw [hml]; rfl) (Steps.refl _) (argsL := [(.ref (w 4))]) (rest := []) (lenOf pd2 rfl) rfl (by show 2 * 0 + _ ≤ _; exact Nat.le_of_eq rfl) (hb hby at_61) (fun _ _ => ⟨rfl, e20, (by decide : 0 + 0 ≤ _), (by decide : 0 + 0 ≤ _)⟩)
      dsimp only [Pt.U, Pt.locs, Pt.cells, Pt.slots] at X23 l23 y23 z23 st23 hQ23
      subst l23 y23 z23
      obtain ⟨rfl, Nq23, e23⟩ := hQ23
      have N23 := Fr.app N20 Nq23
      refine Goes.tr st23 ?_
      refine Goes.by (fun _ kz => XS.iload X23.here hx rfl (hb hby at_64) rfl (XS.icmpNo X23.here hx rfl (hb hby at_66) rfl (teq (by decide : (0 : Int32) = (0 : Int32))).2 (XS.iconst X23.here hx rfl (hb hby at_69) kz))) ?_
      show Goes p e below (T23.setTop (mkF m 70 #[.val (.int p1), .val (.int p2), .val (.int (0 : Int32)), .val (.int (2 : Int32)), .val (.ref (w 0)), .val (.ref (w 4)), .val (.int (0 : Int32))] [(.int (1 : Int32))])) _
      refine Goes.by (fun _ kz => XS.goto X23.here hx rfl (pc0 := 70) (pc' := 74) rfl (hb hby at_70) (by decide) (by decide) kz) ?_
      show Goes p e below (T23.setTop (mkF m 74 #[.val (.int p1), .val (.int p2), .val (.int (0 : Int32)), .val (.int (2 : Int32)), .val (.ref (w 0)), .val (.ref (w 4)), .val (.int (0 : Int32))] [(.int (1 : Int32))])) _
      obtain ⟨fs, hr, hrun, hended, hW, hsame⟩ := X23.leave (v := some (.int (1 : Int32))) (fun h => by rw [Bd.returns] at h; cases h)
      exact ⟨_, _, retN X23 hx (t := .boolean) Bd.returns (by simp) (hb hby at_74) hr, hrun, hended, _, _, rfl, ⟨rfl, N23⟩, ⟨_, rfl⟩, hW, hsame.mono (by decide) (by decide)⟩
    · show Goes p e below (s₁.setTop (mkF m 14 #[.val (.int p1), .val (.int p2), .val (.int (0 : Int32)), .val (.int (3 : Int32)), .unset, .unset, .unset] [])) _
      refine Goes.by (fun _ kz => XS.iloadN X0.here hx rfl (hb hby at_14) rfl kz) ?_
      obtain ⟨_, _, ⟨T24, L24, k24, n24⟩, -, X24, ⟨Lc24, hQ24, l24, y24, z24⟩, st24⟩ := Jvm.LawKit.callS X0 hx (y := (⟨"com/example/nextkey/nextkey/lock/LockKindCoversPinLaw", "kind", "(I)Lcom/example/nextkey/nextkey/lock/LockKind;"⟩ : MethodName)) hown (mvT hZ (hw _ (List.mem_of_getElem? (i := 1) rfl))) (mvT hZ (hw _ (List.mem_of_getElem? (i := 2) rfl))) (mvT hZ (hw _ (List.mem_of_getElem? (i := 3) rfl))) (mvT hZ (hw _ (List.mem_of_getElem? (i := 4) rfl))) (by decide) (backOf (W := 0) (r1_0 l Z a0 hw [] h0 n0 Z0 w P) hZ (hw _ (List.mem_of_getElem? (i := 4) rfl)) (hw _ (List.mem_of_getElem? (i := 3) rfl)) (by decide) (by decide)) (g := (mkF m 15 #[.val (.int p1), .val (.int p2), .val (.int (0 : Int32)), .val (.int (3 : Int32)), .unset, .unset, .unset] [(.int (0 : Int32))])) rfl (by rw [hml]; rfl) (argsL := [(.int (0 : Int32))]) (rest := []) (lenOf pd0 rfl) rfl (by show 2 * 0 + _ ≤ _; exact Nat.le_of_eq rfl) (hb hby at_15) (fun _ _ => ⟨rfl, e0, (by decide : 0 + 0 ≤ _), (by decide : 0 + 0 ≤ _)⟩)
      dsimp only [Pt.U, Pt.locs, Pt.cells, Pt.slots] at X24 l24 y24 z24 st24 hQ24
      subst l24 y24 z24
      obtain ⟨rfl, Nq24, e24⟩ := hQ24
      have N24 := Fr.app N0 Nq24
      refine Goes.by st24 ?_
      refine Goes.by (fun _ kz => XS.astore X24.here hx rfl (hb hby at_18) rfl rfl (l' := #[.val (.int p1), .val (.int p2), .val (.int (0 : Int32)), .val (.int (3 : Int32)), .val (.ref (w 0)), .unset, .unset]) rfl (XS.iloadN X24.here hx rfl (hb hby at_20) rfl kz)) ?_
      obtain ⟨_, _, ⟨T26, L26, k26, n26⟩, -, X26, ⟨Lc26, hQ26, l26, y26, z26⟩, st26⟩ := Jvm.LawKit.callS X24 hx (y := (⟨"com/example/nextkey/nextkey/lock/LockKindCoversPinLaw", "kind", "(I)Lcom/example/nextkey/nextkey/lock/LockKind;"⟩ : MethodName)) hown (mvT hZ (hw _ (List.mem_of_getElem? (i := 1) rfl))) (mvT hZ (hw _ (List.mem_of_getElem? (i := 2) rfl))) (mvT hZ (hw _ (List.mem_of_getElem? (i := 3) rfl))) (mvT hZ (hw _ (List.mem_of_getElem? (i := 4) rfl))) (by decide) (backOf (W := 0) (r1_9 l Z a0 hw [] h0 n0 Z0 w P) hZ (hw _ (List.mem_of_getElem? (i := 4) rfl)) (hw _ (List.mem_of_getElem? (i := 3) rfl)) (by decide) (by decide)) (g := (mkF m 21 #[.val (.int p1), .val (.int p2), .val (.int (0 : Int32)), .val (.int (3 : Int32)), .val (.ref (w 0)), .unset, .unset] [(.int (3 : Int32))])) rfl (by rw [hml]; rfl) (argsL := [(.int (3 : Int32))]) (rest := []) (lenOf pd0 rfl) rfl (by show 2 * 0 + _ ≤ _; exact Nat.le_of_eq rfl) (hb hby at_21) (fun _ _ => ⟨rfl, e24, (by decide : 0 + 0 ≤ _), (by decide : 0 + 0 ≤ _)⟩)
      dsimp only [Pt.U, Pt.locs, Pt.cells, Pt.slots] at X26 l26 y26 z26 st26 hQ26
      subst l26 y26 z26
      obtain ⟨rfl, Nq26, e26⟩ := hQ26
      have N26 := Fr.app N24 Nq26
      refine Goes.by st26 ?_
      refine Goes.by (fun _ kz => XS.astore X26.here hx rfl (hb hby at_24) rfl rfl (l' := #[.val (.int p1), .val (.int p2), .val (.int (0 : Int32)), .val (.int (3 : Int32)), .val (.ref (w 0)), .val (.ref (w 1)), .unset]) rfl (XS.iloadN X26.here hx rfl (hb hby at_26) rfl (XS.iconst X26.here hx rfl (hb hby at_27) kz))) ?_
      show Goes p e below (T26.setTop (mkF m 28 #[.val (.int p1), .val (.int p2), .val (.int (0 : Int32)), .val (.int (3 : Int32)), .val (.ref (w 0)), .val (.ref (w 1)), .unset] [(.int (4 : Int32)), (.int (0 : Int32))])) _
      refine Goes.by (fun _ kz => XS.icmpNo X26.here hx rfl (hb hby at_28) rfl (feq (by decide : ¬ ((0 : Int32) = (4 : Int32)))).1 (XS.iloadN X26.here hx rfl (hb hby at_31) rfl (XS.iconst X26.here hx rfl (hb hby at_32) kz))) ?_
      show Goes p e below (T26.setTop (mkF m 33 #[.val (.int p1), .val (.int p2), .val (.int (0 : Int32)), .val (.int (3 : Int32)), .val (.ref (w 0)), .val (.ref (w 1)), .unset] [(.int (4 : Int32)), (.int (3 : Int32))])) _
      refine Goes.by (fun _ kz => XS.icmpNo X26.here hx rfl (hb hby at_33) rfl (feq (by decide : ¬ ((3 : Int32) = (4 : Int32)))).1 (XS.iloadN X26.here hx rfl (hb hby at_36) rfl kz)) ?_
      obtain ⟨_, _, ⟨T27, L27, k27, n27⟩, -, X27, ⟨Lc27, hQ27, l27, y27, z27⟩, st27⟩ := Jvm.LawKit.callS X26 hx (y := (⟨"com/example/nextkey/nextkey/lock/LockKindCoversPinLaw", "parts", "(I)I"⟩ : MethodName)) hown (mvT hZ (hw _ (List.mem_of_getElem? (i := 10) rfl))) (mvT hZ (hw _ (List.mem_of_getElem? (i := 11) rfl))) (mvT hZ (hw _ (List.mem_of_getElem? (i := 3) rfl))) (mvT hZ (hw _ (List.mem_of_getElem? (i := 12) rfl))) (by decide) (backOf (W := 0) (r2_10 l Z a0 hw [] h0 n0 Z0 w P) hZ (hw _ (List.mem_of_getElem? (i := 12) rfl)) (hw _ (List.mem_of_getElem? (i := 3) rfl)) (by decide) (by decide)) (g := (mkF m 37 #[.val (.int p1), .val (.int p2), .val (.int (0 : Int32)), .val (.int (3 : Int32)), .val (.ref (w 0)), .val (.ref (w 1)), .unset] [(.int (3 : Int32))])) rfl (by rw [hml]; rfl) (argsL := [(.int (3 : Int32))]) (rest := []) (lenOf pd1 rfl) rfl (by show 2 * 0 + _ ≤ _; exact Nat.le_of_eq rfl) (hb hby at_37) (fun _ _ => ⟨rfl, e26, (by decide : 0 + 0 ≤ _), (by decide : 0 + 0 ≤ _)⟩)
      dsimp only [Pt.U, Pt.locs, Pt.cells, Pt.slots] at X27 l27 y27 z27 st27 hQ27
      subst l27 y27 z27
      obtain ⟨rfl, Nq27, e27⟩ := hQ27
      have N27 := Fr.app N26 Nq27
      refine Goes.by st27 ?_
      refine Goes.by (fun _ kz => XS.iloadN X27.here hx rfl (hb hby at_40) rfl kz) ?_
      obtain ⟨_, _, ⟨T28, L28, k28, n28⟩, -, X28, ⟨Lc28, hQ28, l28, y28, z28⟩, st28⟩ := Jvm.LawKit.callS X27 hx (y := (⟨"com/example/nextkey/nextkey/lock/LockKindCoversPinLaw", "parts", "(I)I"⟩ : MethodName)) hown (mvT hZ (hw _ (List.mem_of_getElem? (i := 10) rfl))) (mvT hZ (hw _ (List.mem_of_getElem? (i := 11) rfl))) (mvT hZ (hw _ (List.mem_of_getElem? (i := 3) rfl))) (mvT hZ (hw _ (List.mem_of_getElem? (i := 12) rfl))) (by decide) (backOf (W := 1) (r2_1 l Z a0 hw [] h0 n0 Z0 w P) hZ (hw _ (List.mem_of_getElem? (i := 12) rfl)) (hw _ (List.mem_of_getElem? (i := 3) rfl)) (by decide) (by decide)) (g := (mkF m 41 #[.val (.int p1), .val (.int p2), .val (.int (0 : Int32)), .val (.int (3 : Int32)), .val (.ref (w 0)), .val (.ref (w 1)), .unset] [(.int (0 : Int32)), (.int (6 : Int32))])) rfl (by rw [hml]; rfl) (argsL := [(.int (0 : Int32))]) (rest := [(.int (6 : Int32))]) (lenOf pd1 rfl) rfl (by show 2 * 0 + _ ≤ _; exact Nat.le_of_eq rfl) (hb hby at_41) (fun _ _ => ⟨rfl, e27, (by decide : 0 + 0 ≤ _), (by decide : 0 + 0 ≤ _)⟩)
      dsimp only [Pt.U, Pt.locs, Pt.cells, Pt.slots] at X28 l28 y28 z28 st28 hQ28
      subst l28 y28 z28
      obtain ⟨rfl, Nq28, e28⟩ := hQ28
      have N28 := Fr.app N27 Nq28
      refine Goes.by st28 ?_
      refine Goes.by (fun _ kz => XS.iconst X28.here hx rfl (hb hby at_44) (XS.ixor X28.here hx rfl (hb hby at_45) rfl kz)) ?_
      show Goes p e below (T28.setTop (mkF m 46 #[.val (.int p1), .val (.int p2), .val (.int (0 : Int32)), .val (.int (3 : Int32)), .val (.ref (w 0)), .val (.ref (w 1)), .unset] [(.int ((1 : Int32) ^^^ (-1 : Int32))), (.int (6 : Int32))])) _
      rw [show (((1 : Int32) ^^^ (-1 : Int32)) : Int32) = (-2 : Int32) from by decide]
      show Goes p e below (T28.setTop (mkF m 46 #[.val (.int p1), .val (.int p2), .val (.int (0 : Int32)), .val (.int (3 : Int32)), .val (.ref (w 0)), .val (.ref (w 1)), .unset] [(.int (-2 : Int32)), (.int (6 : Int32))])) _
      refine Goes.by (fun _ kz => XS.iand X28.here hx rfl (hb hby at_46) rfl kz) ?_
      show Goes p e below (T28.setTop (mkF m 47 #[.val (.int p1), .val (.int p2), .val (.int (0 : Int32)), .val (.int (3 : Int32)), .val (.ref (w 0)), .val (.ref (w 1)), .unset] [(.int ((6 : Int32) &&& (-2 : Int32)))])) _
      rw [show (((6 : Int32) &&& (-2 : Int32)) : Int32) = (6 : Int32) from by decide]
      show Goes p e below (T28.setTop (mkF m 47 #[.val (.int p1), .val (.int p2), .val (.int (0 : Int32)), .val (.int (3 : Int32)), .val (.ref (w 0)), .val (.ref (w 1)), .unset] [(.int (6 : Int32))])) _
      refine Goes.by (fun _ kz => XS.ifYes X28.here hx rfl (pc0 := 47) (pc' := 54) rfl (hb hby at_47) rfl ((if0 _ _).trans (feq (by decide : ¬ ((6 : Int32) = (0 : Int32)))).2) (by decide) (by decide) (XS.iconst X28.here hx rfl (hb hby at_54) (XS.istore X28.here hx rfl (hb hby at_55) rfl (l' := #[.val (.int p1), .val (.int p2), .val (.int (0 : Int32)), .val (.int (3 : Int32)), .val (.ref (w 0)), .val (.ref (w 1)), .val (.int (0 : Int32))]) rfl kz))) ?_
      show Goes p e below (T28.setTop (mkF m 57 #[.val (.int p1), .val (.int p2), .val (.int (0 : Int32)), .val (.int (3 : Int32)), .val (.ref (w 0)), .val (.ref (w 1)), .val (.int (0 : Int32))] [])) _
      refine Goes.by (fun _ kz => XS.aload X28.here hx rfl (hb hby at_57) rfl rfl (XS.aload X28.here hx rfl (hb hby at_59) rfl rfl kz)) ?_
      obtain ⟨cq31, kq31, q31a, q31b, q31c⟩ := isOf hZ e28 P.2.1
      obtain ⟨_, _, ⟨T31, L31, k31, n31⟩, -, X31, ⟨Lc31, hQ31, l31, y31, z31⟩, st31⟩ := X28.virtualBack hx (y := (⟨"com/example/nextkey/nextkey/lock/LockKind", "covers", "(Lcom/example/nextkey/nextkey/lock/LockKind;)Z"⟩ : MethodName)) (z := (⟨"com/example/nextkey/nextkey/lock/LockKind", "covers", "(Lcom/example/nextkey/nextkey/lock/LockKind;)Z"⟩ : MethodName)) hown (mvT hZ (hw _ (List.mem_of_getElem? (i := 13) rfl))) (mvT hZ (hw _ (List.mem_of_getElem? (i := 14) rfl))) (notFace_of_selects (args := #[]) (mvT hZ (hw _ (List.mem_of_getElem? (i := 16) rfl)))) (mvT hZ (hw _ (List.mem_of_getElem? (i := 16) rfl))) (mvT hZ (hw _ (List.mem_of_getElem? (i := 15) rfl))) (by decide) (backOf (W := 0) (r3_11 l Z a0 hw [] h0 n0 Z0 w P) hZ (hw _ (List.mem_of_getElem? (i := 17) rfl)) (hw _ (List.mem_of_getElem? (i := 6) rfl)) (by decide) (by decide)) q31a q31c (g := (mkF m 61 #[.val (.int p1), .val (.int p2), .val (.int (0 : Int32)), .val (.int (3 : Int32)), .val (.ref (w 0)), .val (.ref (w 1)), .val (.int (0 : Int32))] [(.ref (w 1)), (.ref (w 0))])) rfl (by rw [hml]; rfl) (Steps.refl _) (argsL := [(.ref (w 1))]) (rest := []) (lenOf pd2 rfl) rfl (by show 2 * 0 + _ ≤ _; exact Nat.le_of_eq rfl) (hb hby at_61) (fun _ _ => ⟨rfl, e28, (by decide : 0 + 0 ≤ _), (by decide : 0 + 0 ≤ _)⟩)
      dsimp only [Pt.U, Pt.locs, Pt.cells, Pt.slots] at X31 l31 y31 z31 st31 hQ31
      subst l31 y31 z31
      obtain ⟨rfl, Nq31, e31⟩ := hQ31
      have N31 := Fr.app N28 Nq31
      refine Goes.tr st31 ?_
      refine Goes.by (fun _ kz => XS.iload X31.here hx rfl (hb hby at_64) rfl (XS.icmpNo X31.here hx rfl (hb hby at_66) rfl (teq (by decide : (0 : Int32) = (0 : Int32))).2 (XS.iconst X31.here hx rfl (hb hby at_69) kz))) ?_
      show Goes p e below (T31.setTop (mkF m 70 #[.val (.int p1), .val (.int p2), .val (.int (0 : Int32)), .val (.int (3 : Int32)), .val (.ref (w 0)), .val (.ref (w 1)), .val (.int (0 : Int32))] [(.int (1 : Int32))])) _
      refine Goes.by (fun _ kz => XS.goto X31.here hx rfl (pc0 := 70) (pc' := 74) rfl (hb hby at_70) (by decide) (by decide) kz) ?_
      show Goes p e below (T31.setTop (mkF m 74 #[.val (.int p1), .val (.int p2), .val (.int (0 : Int32)), .val (.int (3 : Int32)), .val (.ref (w 0)), .val (.ref (w 1)), .val (.int (0 : Int32))] [(.int (1 : Int32))])) _
      obtain ⟨fs, hr, hrun, hended, hW, hsame⟩ := X31.leave (v := some (.int (1 : Int32))) (fun h => by rw [Bd.returns] at h; cases h)
      exact ⟨_, _, retN X31 hx (t := .boolean) Bd.returns (by simp) (hb hby at_74) hr, hrun, hended, _, _, rfl, ⟨rfl, N31⟩, ⟨_, rfl⟩, hW, hsame.mono (by decide) (by decide)⟩
    · show Goes p e below (s₁.setTop (mkF m 14 #[.val (.int p1), .val (.int p2), .val (.int (0 : Int32)), .val (.int (4 : Int32)), .unset, .unset, .unset] [])) _
      refine Goes.by (fun _ kz => XS.iloadN X0.here hx rfl (hb hby at_14) rfl kz) ?_
      obtain ⟨_, _, ⟨T32, L32, k32, n32⟩, -, X32, ⟨Lc32, hQ32, l32, y32, z32⟩, st32⟩ := Jvm.LawKit.callS X0 hx (y := (⟨"com/example/nextkey/nextkey/lock/LockKindCoversPinLaw", "kind", "(I)Lcom/example/nextkey/nextkey/lock/LockKind;"⟩ : MethodName)) hown (mvT hZ (hw _ (List.mem_of_getElem? (i := 1) rfl))) (mvT hZ (hw _ (List.mem_of_getElem? (i := 2) rfl))) (mvT hZ (hw _ (List.mem_of_getElem? (i := 3) rfl))) (mvT hZ (hw _ (List.mem_of_getElem? (i := 4) rfl))) (by decide) (backOf (W := 0) (r1_0 l Z a0 hw [] h0 n0 Z0 w P) hZ (hw _ (List.mem_of_getElem? (i := 4) rfl)) (hw _ (List.mem_of_getElem? (i := 3) rfl)) (by decide) (by decide)) (g := (mkF m 15 #[.val (.int p1), .val (.int p2), .val (.int (0 : Int32)), .val (.int (4 : Int32)), .unset, .unset, .unset] [(.int (0 : Int32))])) rfl (by rw [hml]; rfl) (argsL := [(.int (0 : Int32))]) (rest := []) (lenOf pd0 rfl) rfl (by show 2 * 0 + _ ≤ _; exact Nat.le_of_eq rfl) (hb hby at_15) (fun _ _ => ⟨rfl, e0, (by decide : 0 + 0 ≤ _), (by decide : 0 + 0 ≤ _)⟩)
      dsimp only [Pt.U, Pt.locs, Pt.cells, Pt.slots] at X32 l32 y32 z32 st32 hQ32
      subst l32 y32 z32
      obtain ⟨rfl, Nq32, e32⟩ := hQ32
      have N32 := Fr.app N0 Nq32
      refine Goes.by st32 ?_
      refine Goes.by (fun _ kz => XS.astore X32.here hx rfl (hb hby at_18) rfl rfl (l' := #[.val (.int p1), .val (.int p2), .val (.int (0 : Int32)), .val (.int (4 : Int32)), .val (.ref (w 0)), .unset, .unset]) rfl (XS.iloadN X32.here hx rfl (hb hby at_20) rfl kz)) ?_
      obtain ⟨_, _, ⟨T34, L34, k34, n34⟩, -, X34, ⟨Lc34, hQ34, l34, y34, z34⟩, st34⟩ := Jvm.LawKit.callS X32 hx (y := (⟨"com/example/nextkey/nextkey/lock/LockKindCoversPinLaw", "kind", "(I)Lcom/example/nextkey/nextkey/lock/LockKind;"⟩ : MethodName)) hown (mvT hZ (hw _ (List.mem_of_getElem? (i := 1) rfl))) (mvT hZ (hw _ (List.mem_of_getElem? (i := 2) rfl))) (mvT hZ (hw _ (List.mem_of_getElem? (i := 3) rfl))) (mvT hZ (hw _ (List.mem_of_getElem? (i := 4) rfl))) (by decide) (backOf (W := 0) (r1_12 l Z a0 hw [] h0 n0 Z0 w P) hZ (hw _ (List.mem_of_getElem? (i := 4) rfl)) (hw _ (List.mem_of_getElem? (i := 3) rfl)) (by decide) (by decide)) (g := (mkF m 21 #[.val (.int p1), .val (.int p2), .val (.int (0 : Int32)), .val (.int (4 : Int32)), .val (.ref (w 0)), .unset, .unset] [(.int (4 : Int32))])) rfl (by rw [hml]; rfl) (argsL := [(.int (4 : Int32))]) (rest := []) (lenOf pd0 rfl) rfl (by show 2 * 0 + _ ≤ _; exact Nat.le_of_eq rfl) (hb hby at_21) (fun _ _ => ⟨rfl, e32, (by decide : 0 + 0 ≤ _), (by decide : 0 + 0 ≤ _)⟩)
      dsimp only [Pt.U, Pt.locs, Pt.cells, Pt.slots] at X34 l34 y34 z34 st34 hQ34
      subst l34 y34 z34
      obtain ⟨rfl, Nq34, e34⟩ := hQ34
      have N34 := Fr.app N32 Nq34
      refine Goes.by st34 ?_
      refine Goes.by (fun _ kz => XS.astore X34.here hx rfl (hb hby at_24) rfl rfl (l' := #[.val (.int p1), .val (.int p2), .val (.int (0 : Int32)), .val (.int (4 : Int32)), .val (.ref (w 0)), .val (.ref (w 2)), .unset]) rfl (XS.iloadN X34.here hx rfl (hb hby at_26) rfl (XS.iconst X34.here hx rfl (hb hby at_27) kz))) ?_
      show Goes p e below (T34.setTop (mkF m 28 #[.val (.int p1), .val (.int p2), .val (.int (0 : Int32)), .val (.int (4 : Int32)), .val (.ref (w 0)), .val (.ref (w 2)), .unset] [(.int (4 : Int32)), (.int (0 : Int32))])) _
      refine Goes.by (fun _ kz => XS.icmpNo X34.here hx rfl (hb hby at_28) rfl (feq (by decide : ¬ ((0 : Int32) = (4 : Int32)))).1 (XS.iloadN X34.here hx rfl (hb hby at_31) rfl (XS.iconst X34.here hx rfl (hb hby at_32) kz))) ?_
      show Goes p e below (T34.setTop (mkF m 33 #[.val (.int p1), .val (.int p2), .val (.int (0 : Int32)), .val (.int (4 : Int32)), .val (.ref (w 0)), .val (.ref (w 2)), .unset] [(.int (4 : Int32)), (.int (4 : Int32))])) _
      refine Goes.by (fun _ kz => XS.icmpYes X34.here hx rfl (pc0 := 33) (pc' := 54) rfl (hb hby at_33) rfl (teq (by decide : (4 : Int32) = (4 : Int32))).1 (by decide) (by decide) (XS.iconst X34.here hx rfl (hb hby at_54) (XS.istore X34.here hx rfl (hb hby at_55) rfl (l' := #[.val (.int p1), .val (.int p2), .val (.int (0 : Int32)), .val (.int (4 : Int32)), .val (.ref (w 0)), .val (.ref (w 2)), .val (.int (0 : Int32))]) rfl kz))) ?_
      show Goes p e below (T34.setTop (mkF m 57 #[.val (.int p1), .val (.int p2), .val (.int (0 : Int32)), .val (.int (4 : Int32)), .val (.ref (w 0)), .val (.ref (w 2)), .val (.int (0 : Int32))] [])) _
      refine Goes.by (fun _ kz => XS.aload X34.here hx rfl (hb hby at_57) rfl rfl (XS.aload X34.here hx rfl (hb hby at_59) rfl rfl kz)) ?_
      obtain ⟨cq36, kq36, q36a, q36b, q36c⟩ := isOf hZ e34 P.2.1
      obtain ⟨_, _, ⟨T36, L36, k36, n36⟩, -, X36, ⟨Lc36, hQ36, l36, y36, z36⟩, st36⟩ := X34.virtualBack hx (y := (⟨"com/example/nextkey/nextkey/lock/LockKind", "covers", "(Lcom/example/nextkey/nextkey/lock/LockKind;)Z"⟩ : MethodName)) (z := (⟨"com/example/nextkey/nextkey/lock/LockKind", "covers", "(Lcom/example/nextkey/nextkey/lock/LockKind;)Z"⟩ : MethodName)) hown (mvT hZ (hw _ (List.mem_of_getElem? (i := 13) rfl))) (mvT hZ (hw _ (List.mem_of_getElem? (i := 14) rfl))) (notFace_of_selects (args := #[]) (mvT hZ (hw _ (List.mem_of_getElem? (i := 16) rfl)))) (mvT hZ (hw _ (List.mem_of_getElem? (i := 16) rfl))) (mvT hZ (hw _ (List.mem_of_getElem? (i := 15) rfl))) (by decide) (backOf (W := 0) (r3_13 l Z a0 hw [] h0 n0 Z0 w P) hZ (hw _ (List.mem_of_getElem? (i := 17) rfl)) (hw _ (List.mem_of_getElem? (i := 6) rfl)) (by decide) (by decide)) q36a q36c (g := (mkF m 61 #[.val (.int p1), .val (.int p2), .val (.int (0 : Int32)), .val (.int (4 : Int32)), .val (.ref (w 0)), .val (.ref (w 2)), .val (.int (0 : Int32))] [(.ref (w 2)), (.ref (w 0))])) rfl (by rw [hml]; rfl) (Steps.refl _) (argsL := [(.ref (w 2))]) (rest := []) (lenOf pd2 rfl) rfl (by show 2 * 0 + _ ≤ _; exact Nat.le_of_eq rfl) (hb hby at_61) (fun _ _ => ⟨rfl, e34, (by decide : 0 + 0 ≤ _), (by decide : 0 + 0 ≤ _)⟩)
      dsimp only [Pt.U, Pt.locs, Pt.cells, Pt.slots] at X36 l36 y36 z36 st36 hQ36
      subst l36 y36 z36
      obtain ⟨rfl, Nq36, e36⟩ := hQ36
      have N36 := Fr.app N34 Nq36
      refine Goes.tr st36 ?_
      refine Goes.by (fun _ kz => XS.iload X36.here hx rfl (hb hby at_64) rfl (XS.icmpNo X36.here hx rfl (hb hby at_66) rfl (teq (by decide : (0 : Int32) = (0 : Int32))).2 (XS.iconst X36.here hx rfl (hb hby at_69) kz))) ?_
      show Goes p e below (T36.setTop (mkF m 70 #[.val (.int p1), .val (.int p2), .val (.int (0 : Int32)), .val (.int (4 : Int32)), .val (.ref (w 0)), .val (.ref (w 2)), .val (.int (0 : Int32))] [(.int (1 : Int32))])) _
      refine Goes.by (fun _ kz => XS.goto X36.here hx rfl (pc0 := 70) (pc' := 74) rfl (hb hby at_70) (by decide) (by decide) kz) ?_
      show Goes p e below (T36.setTop (mkF m 74 #[.val (.int p1), .val (.int p2), .val (.int (0 : Int32)), .val (.int (4 : Int32)), .val (.ref (w 0)), .val (.ref (w 2)), .val (.int (0 : Int32))] [(.int (1 : Int32))])) _
      obtain ⟨fs, hr, hrun, hended, hW, hsame⟩ := X36.leave (v := some (.int (1 : Int32))) (fun h => by rw [Bd.returns] at h; cases h)
      exact ⟨_, _, retN X36 hx (t := .boolean) Bd.returns (by simp) (hb hby at_74) hr, hrun, hended, _, _, rfl, ⟨rfl, N36⟩, ⟨_, rfl⟩, hW, hsame.mono (by decide) (by decide)⟩
  · show Goes p e below (s₁.setTop (mkF m 7 #[.val (.int p1), .val (.int p2), .val (.int (1 : Int32)), .unset, .unset, .unset, .unset] [])) _
    refine Goes.by (fun _ kz => XS.iloadN X0.here hx rfl (hb hby at_7) rfl (X0.ldcInt hx hown (mvT hZ (hw _ (List.mem_of_getElem? (i := 0) rfl))) (g := (mkF m 8 #[.val (.int p1), .val (.int p2), .val (.int (1 : Int32)), .unset, .unset, .unset, .unset] [(.int p2)])) rfl (hb hby at_8) _ (XS.iand X0.here hx rfl (hb hby at_10) rfl kz))) ?_
    show Goes p e below (s₁.setTop (mkF m 11 #[.val (.int p1), .val (.int p2), .val (.int (1 : Int32)), .unset, .unset, .unset, .unset] [(.int (p2 &&& (2147483647 : Int32)))])) _
    refine Goes.by (fun _ kz => XS.iconst X0.here hx rfl (hb hby at_11) (iremM X0 hx rfl (hb hby at_12) rfl (by decide) (XS.istoreN X0.here hx rfl (hb hby at_13) rfl (l' := #[.val (.int p1), .val (.int p2), .val (.int (1 : Int32)), .val (.int ((p2 &&& (2147483647 : Int32)) % (5 : Int32))), .unset, .unset, .unset]) rfl kz))) ?_
    show Goes p e below (s₁.setTop (mkF m 14 #[.val (.int p1), .val (.int p2), .val (.int (1 : Int32)), .val (.int ((p2 &&& (2147483647 : Int32)) % (5 : Int32))), .unset, .unset, .unset] [])) _
    have hsj := own_split p2
    obtain ⟨j, hj⟩ : ∃ z, z = ((p2 &&& (2147483647 : Int32)) % (5 : Int32)) := ⟨_, rfl⟩
    rw [← hj] at hsj ⊢
    rcases hsj with rfl | rfl | rfl | rfl | rfl
    · show Goes p e below (s₁.setTop (mkF m 14 #[.val (.int p1), .val (.int p2), .val (.int (1 : Int32)), .val (.int (0 : Int32)), .unset, .unset, .unset] [])) _
      refine Goes.by (fun _ kz => XS.iloadN X0.here hx rfl (hb hby at_14) rfl kz) ?_
      obtain ⟨_, _, ⟨T37, L37, k37, n37⟩, -, X37, ⟨Lc37, hQ37, l37, y37, z37⟩, st37⟩ := Jvm.LawKit.callS X0 hx (y := (⟨"com/example/nextkey/nextkey/lock/LockKindCoversPinLaw", "kind", "(I)Lcom/example/nextkey/nextkey/lock/LockKind;"⟩ : MethodName)) hown (mvT hZ (hw _ (List.mem_of_getElem? (i := 1) rfl))) (mvT hZ (hw _ (List.mem_of_getElem? (i := 2) rfl))) (mvT hZ (hw _ (List.mem_of_getElem? (i := 3) rfl))) (mvT hZ (hw _ (List.mem_of_getElem? (i := 4) rfl))) (by decide) (backOf (W := 0) (r1_3 l Z a0 hw [] h0 n0 Z0 w P) hZ (hw _ (List.mem_of_getElem? (i := 4) rfl)) (hw _ (List.mem_of_getElem? (i := 3) rfl)) (by decide) (by decide)) (g := (mkF m 15 #[.val (.int p1), .val (.int p2), .val (.int (1 : Int32)), .val (.int (0 : Int32)), .unset, .unset, .unset] [(.int (1 : Int32))])) rfl (by rw [hml]; rfl) (argsL := [(.int (1 : Int32))]) (rest := []) (lenOf pd0 rfl) rfl (by show 2 * 0 + _ ≤ _; exact Nat.le_of_eq rfl) (hb hby at_15) (fun _ _ => ⟨rfl, e0, (by decide : 0 + 0 ≤ _), (by decide : 0 + 0 ≤ _)⟩)
      dsimp only [Pt.U, Pt.locs, Pt.cells, Pt.slots] at X37 l37 y37 z37 st37 hQ37
      subst l37 y37 z37
      obtain ⟨rfl, Nq37, e37⟩ := hQ37
      have N37 := Fr.app N0 Nq37
      refine Goes.by st37 ?_
      refine Goes.by (fun _ kz => XS.astore X37.here hx rfl (hb hby at_18) rfl rfl (l' := #[.val (.int p1), .val (.int p2), .val (.int (1 : Int32)), .val (.int (0 : Int32)), .val (.ref (w 3)), .unset, .unset]) rfl (XS.iloadN X37.here hx rfl (hb hby at_20) rfl kz)) ?_
      obtain ⟨_, _, ⟨T38, L38, k38, n38⟩, -, X38, ⟨Lc38, hQ38, l38, y38, z38⟩, st38⟩ := Jvm.LawKit.callS X37 hx (y := (⟨"com/example/nextkey/nextkey/lock/LockKindCoversPinLaw", "kind", "(I)Lcom/example/nextkey/nextkey/lock/LockKind;"⟩ : MethodName)) hown (mvT hZ (hw _ (List.mem_of_getElem? (i := 1) rfl))) (mvT hZ (hw _ (List.mem_of_getElem? (i := 2) rfl))) (mvT hZ (hw _ (List.mem_of_getElem? (i := 3) rfl))) (mvT hZ (hw _ (List.mem_of_getElem? (i := 4) rfl))) (by decide) (backOf (W := 0) (r1_0 l Z a0 hw [] h0 n0 Z0 w P) hZ (hw _ (List.mem_of_getElem? (i := 4) rfl)) (hw _ (List.mem_of_getElem? (i := 3) rfl)) (by decide) (by decide)) (g := (mkF m 21 #[.val (.int p1), .val (.int p2), .val (.int (1 : Int32)), .val (.int (0 : Int32)), .val (.ref (w 3)), .unset, .unset] [(.int (0 : Int32))])) rfl (by rw [hml]; rfl) (argsL := [(.int (0 : Int32))]) (rest := []) (lenOf pd0 rfl) rfl (by show 2 * 0 + _ ≤ _; exact Nat.le_of_eq rfl) (hb hby at_21) (fun _ _ => ⟨rfl, e37, (by decide : 0 + 0 ≤ _), (by decide : 0 + 0 ≤ _)⟩)
      dsimp only [Pt.U, Pt.locs, Pt.cells, Pt.slots] at X38 l38 y38 z38 st38 hQ38
      subst l38 y38 z38
      obtain ⟨rfl, Nq38, e38⟩ := hQ38
      have N38 := Fr.app N37 Nq38
      refine Goes.by st38 ?_
      refine Goes.by (fun _ kz => XS.astore X38.here hx rfl (hb hby at_24) rfl rfl (l' := #[.val (.int p1), .val (.int p2), .val (.int (1 : Int32)), .val (.int (0 : Int32)), .val (.ref (w 3)), .val (.ref (w 0)), .unset]) rfl (XS.iloadN X38.here hx rfl (hb hby at_26) rfl (XS.iconst X38.here hx rfl (hb hby at_27) kz))) ?_
      show Goes p e below (T38.setTop (mkF m 28 #[.val (.int p1), .val (.int p2), .val (.int (1 : Int32)), .val (.int (0 : Int32)), .val (.ref (w 3)), .val (.ref (w 0)), .unset] [(.int (4 : Int32)), (.int (1 : Int32))])) _
      refine Goes.by (fun _ kz => XS.icmpNo X38.here hx rfl (hb hby at_28) rfl (feq (by decide : ¬ ((1 : Int32) = (4 : Int32)))).1 (XS.iloadN X38.here hx rfl (hb hby at_31) rfl (XS.iconst X38.here hx rfl (hb hby at_32) kz))) ?_
      show Goes p e below (T38.setTop (mkF m 33 #[.val (.int p1), .val (.int p2), .val (.int (1 : Int32)), .val (.int (0 : Int32)), .val (.ref (w 3)), .val (.ref (w 0)), .unset] [(.int (4 : Int32)), (.int (0 : Int32))])) _
      refine Goes.by (fun _ kz => XS.icmpNo X38.here hx rfl (hb hby at_33) rfl (feq (by decide : ¬ ((0 : Int32) = (4 : Int32)))).1 (XS.iloadN X38.here hx rfl (hb hby at_36) rfl kz)) ?_
      obtain ⟨_, _, ⟨T39, L39, k39, n39⟩, -, X39, ⟨Lc39, hQ39, l39, y39, z39⟩, st39⟩ := Jvm.LawKit.callS X38 hx (y := (⟨"com/example/nextkey/nextkey/lock/LockKindCoversPinLaw", "parts", "(I)I"⟩ : MethodName)) hown (mvT hZ (hw _ (List.mem_of_getElem? (i := 10) rfl))) (mvT hZ (hw _ (List.mem_of_getElem? (i := 11) rfl))) (mvT hZ (hw _ (List.mem_of_getElem? (i := 3) rfl))) (mvT hZ (hw _ (List.mem_of_getElem? (i := 12) rfl))) (by decide) (backOf (W := 0) (r2_1 l Z a0 hw [] h0 n0 Z0 w P) hZ (hw _ (List.mem_of_getElem? (i := 12) rfl)) (hw _ (List.mem_of_getElem? (i := 3) rfl)) (by decide) (by decide)) (g := (mkF m 37 #[.val (.int p1), .val (.int p2), .val (.int (1 : Int32)), .val (.int (0 : Int32)), .val (.ref (w 3)), .val (.ref (w 0)), .unset] [(.int (0 : Int32))])) rfl (by rw [hml]; rfl) (argsL := [(.int (0 : Int32))]) (rest := []) (lenOf pd1 rfl) rfl (by show 2 * 0 + _ ≤ _; exact Nat.le_of_eq rfl) (hb hby at_37) (fun _ _ => ⟨rfl, e38, (by decide : 0 + 0 ≤ _), (by decide : 0 + 0 ≤ _)⟩)
      dsimp only [Pt.U, Pt.locs, Pt.cells, Pt.slots] at X39 l39 y39 z39 st39 hQ39
      subst l39 y39 z39
      obtain ⟨rfl, Nq39, e39⟩ := hQ39
      have N39 := Fr.app N38 Nq39
      refine Goes.by st39 ?_
      refine Goes.by (fun _ kz => XS.iloadN X39.here hx rfl (hb hby at_40) rfl kz) ?_
      obtain ⟨_, _, ⟨T40, L40, k40, n40⟩, -, X40, ⟨Lc40, hQ40, l40, y40, z40⟩, st40⟩ := Jvm.LawKit.callS X39 hx (y := (⟨"com/example/nextkey/nextkey/lock/LockKindCoversPinLaw", "parts", "(I)I"⟩ : MethodName)) hown (mvT hZ (hw _ (List.mem_of_getElem? (i := 10) rfl))) (mvT hZ (hw _ (List.mem_of_getElem? (i := 11) rfl))) (mvT hZ (hw _ (List.mem_of_getElem? (i := 3) rfl))) (mvT hZ (hw _ (List.mem_of_getElem? (i := 12) rfl))) (by decide) (backOf (W := 1) (r2_4 l Z a0 hw [] h0 n0 Z0 w P) hZ (hw _ (List.mem_of_getElem? (i := 12) rfl)) (hw _ (List.mem_of_getElem? (i := 3) rfl)) (by decide) (by decide)) (g := (mkF m 41 #[.val (.int p1), .val (.int p2), .val (.int (1 : Int32)), .val (.int (0 : Int32)), .val (.ref (w 3)), .val (.ref (w 0)), .unset] [(.int (1 : Int32)), (.int (1 : Int32))])) rfl (by rw [hml]; rfl) (argsL := [(.int (1 : Int32))]) (rest := [(.int (1 : Int32))]) (lenOf pd1 rfl) rfl (by show 2 * 0 + _ ≤ _; exact Nat.le_of_eq rfl) (hb hby at_41) (fun _ _ => ⟨rfl, e39, (by decide : 0 + 0 ≤ _), (by decide : 0 + 0 ≤ _)⟩)
      dsimp only [Pt.U, Pt.locs, Pt.cells, Pt.slots] at X40 l40 y40 z40 st40 hQ40
      subst l40 y40 z40
      obtain ⟨rfl, Nq40, e40⟩ := hQ40
      have N40 := Fr.app N39 Nq40
      refine Goes.by st40 ?_
      refine Goes.by (fun _ kz => XS.iconst X40.here hx rfl (hb hby at_44) (XS.ixor X40.here hx rfl (hb hby at_45) rfl kz)) ?_
      show Goes p e below (T40.setTop (mkF m 46 #[.val (.int p1), .val (.int p2), .val (.int (1 : Int32)), .val (.int (0 : Int32)), .val (.ref (w 3)), .val (.ref (w 0)), .unset] [(.int ((2 : Int32) ^^^ (-1 : Int32))), (.int (1 : Int32))])) _
      rw [show (((2 : Int32) ^^^ (-1 : Int32)) : Int32) = (-3 : Int32) from by decide]
      show Goes p e below (T40.setTop (mkF m 46 #[.val (.int p1), .val (.int p2), .val (.int (1 : Int32)), .val (.int (0 : Int32)), .val (.ref (w 3)), .val (.ref (w 0)), .unset] [(.int (-3 : Int32)), (.int (1 : Int32))])) _
      refine Goes.by (fun _ kz => XS.iand X40.here hx rfl (hb hby at_46) rfl kz) ?_
      show Goes p e below (T40.setTop (mkF m 47 #[.val (.int p1), .val (.int p2), .val (.int (1 : Int32)), .val (.int (0 : Int32)), .val (.ref (w 3)), .val (.ref (w 0)), .unset] [(.int ((1 : Int32) &&& (-3 : Int32)))])) _
      rw [show (((1 : Int32) &&& (-3 : Int32)) : Int32) = (1 : Int32) from by decide]
      show Goes p e below (T40.setTop (mkF m 47 #[.val (.int p1), .val (.int p2), .val (.int (1 : Int32)), .val (.int (0 : Int32)), .val (.ref (w 3)), .val (.ref (w 0)), .unset] [(.int (1 : Int32))])) _
      refine Goes.by (fun _ kz => XS.ifYes X40.here hx rfl (pc0 := 47) (pc' := 54) rfl (hb hby at_47) rfl ((if0 _ _).trans (feq (by decide : ¬ ((1 : Int32) = (0 : Int32)))).2) (by decide) (by decide) (XS.iconst X40.here hx rfl (hb hby at_54) (XS.istore X40.here hx rfl (hb hby at_55) rfl (l' := #[.val (.int p1), .val (.int p2), .val (.int (1 : Int32)), .val (.int (0 : Int32)), .val (.ref (w 3)), .val (.ref (w 0)), .val (.int (0 : Int32))]) rfl kz))) ?_
      show Goes p e below (T40.setTop (mkF m 57 #[.val (.int p1), .val (.int p2), .val (.int (1 : Int32)), .val (.int (0 : Int32)), .val (.ref (w 3)), .val (.ref (w 0)), .val (.int (0 : Int32))] [])) _
      refine Goes.by (fun _ kz => XS.aload X40.here hx rfl (hb hby at_57) rfl rfl (XS.aload X40.here hx rfl (hb hby at_59) rfl rfl kz)) ?_
      obtain ⟨cq43, kq43, q43a, q43b, q43c⟩ := isOf hZ e40 P.2.2.2.2.2.2.2.1
      obtain ⟨_, _, ⟨T43, L43, k43, n43⟩, -, X43, ⟨Lc43, hQ43, l43, y43, z43⟩, st43⟩ := X40.virtualBack hx (y := (⟨"com/example/nextkey/nextkey/lock/LockKind", "covers", "(Lcom/example/nextkey/nextkey/lock/LockKind;)Z"⟩ : MethodName)) (z := (⟨"com/example/nextkey/nextkey/lock/LockKind", "covers", "(Lcom/example/nextkey/nextkey/lock/LockKind;)Z"⟩ : MethodName)) hown (mvT hZ (hw _ (List.mem_of_getElem? (i := 13) rfl))) (mvT hZ (hw _ (List.mem_of_getElem? (i := 14) rfl))) (notFace_of_selects (args := #[]) (mvT hZ (hw _ (List.mem_of_getElem? (i := 16) rfl)))) (mvT hZ (hw _ (List.mem_of_getElem? (i := 16) rfl))) (mvT hZ (hw _ (List.mem_of_getElem? (i := 15) rfl))) (by decide) (backOf (W := 0) (r3_14 l Z a0 hw [] h0 n0 Z0 w P) hZ (hw _ (List.mem_of_getElem? (i := 17) rfl)) (hw _ (List.mem_of_getElem? (i := 6) rfl)) (by decide) (by decide)) q43a q43c (g := (mkF m 61 #[.val (.int p1), .val (.int p2), .val (.int (1 : Int32)), .val (.int (0 : Int32)), .val (.ref (w 3)), .val (.ref (w 0)), .val (.int (0 : Int32))] [(.ref (w 0)), (.ref (w 3))])) rfl (by rw [hml]; rfl) (Steps.refl _) (argsL := [(.ref (w 0))]) (rest := []) (lenOf pd2 rfl) rfl (by show 2 * 0 + _ ≤ _; exact Nat.le_of_eq rfl) (hb hby at_61) (fun _ _ => ⟨rfl, e40, (by decide : 0 + 0 ≤ _), (by decide : 0 + 0 ≤ _)⟩)
      dsimp only [Pt.U, Pt.locs, Pt.cells, Pt.slots] at X43 l43 y43 z43 st43 hQ43
      subst l43 y43 z43
      obtain ⟨rfl, Nq43, e43⟩ := hQ43
      have N43 := Fr.app N40 Nq43
      refine Goes.tr st43 ?_
      refine Goes.by (fun _ kz => XS.iload X43.here hx rfl (hb hby at_64) rfl (XS.icmpNo X43.here hx rfl (hb hby at_66) rfl (teq (by decide : (0 : Int32) = (0 : Int32))).2 (XS.iconst X43.here hx rfl (hb hby at_69) kz))) ?_
      show Goes p e below (T43.setTop (mkF m 70 #[.val (.int p1), .val (.int p2), .val (.int (1 : Int32)), .val (.int (0 : Int32)), .val (.ref (w 3)), .val (.ref (w 0)), .val (.int (0 : Int32))] [(.int (1 : Int32))])) _
      refine Goes.by (fun _ kz => XS.goto X43.here hx rfl (pc0 := 70) (pc' := 74) rfl (hb hby at_70) (by decide) (by decide) kz) ?_
      show Goes p e below (T43.setTop (mkF m 74 #[.val (.int p1), .val (.int p2), .val (.int (1 : Int32)), .val (.int (0 : Int32)), .val (.ref (w 3)), .val (.ref (w 0)), .val (.int (0 : Int32))] [(.int (1 : Int32))])) _
      obtain ⟨fs, hr, hrun, hended, hW, hsame⟩ := X43.leave (v := some (.int (1 : Int32))) (fun h => by rw [Bd.returns] at h; cases h)
      exact ⟨_, _, retN X43 hx (t := .boolean) Bd.returns (by simp) (hb hby at_74) hr, hrun, hended, _, _, rfl, ⟨rfl, N43⟩, ⟨_, rfl⟩, hW, hsame.mono (by decide) (by decide)⟩
    · show Goes p e below (s₁.setTop (mkF m 14 #[.val (.int p1), .val (.int p2), .val (.int (1 : Int32)), .val (.int (1 : Int32)), .unset, .unset, .unset] [])) _
      refine Goes.by (fun _ kz => XS.iloadN X0.here hx rfl (hb hby at_14) rfl kz) ?_
      obtain ⟨_, _, ⟨T44, L44, k44, n44⟩, -, X44, ⟨Lc44, hQ44, l44, y44, z44⟩, st44⟩ := Jvm.LawKit.callS X0 hx (y := (⟨"com/example/nextkey/nextkey/lock/LockKindCoversPinLaw", "kind", "(I)Lcom/example/nextkey/nextkey/lock/LockKind;"⟩ : MethodName)) hown (mvT hZ (hw _ (List.mem_of_getElem? (i := 1) rfl))) (mvT hZ (hw _ (List.mem_of_getElem? (i := 2) rfl))) (mvT hZ (hw _ (List.mem_of_getElem? (i := 3) rfl))) (mvT hZ (hw _ (List.mem_of_getElem? (i := 4) rfl))) (by decide) (backOf (W := 0) (r1_3 l Z a0 hw [] h0 n0 Z0 w P) hZ (hw _ (List.mem_of_getElem? (i := 4) rfl)) (hw _ (List.mem_of_getElem? (i := 3) rfl)) (by decide) (by decide)) (g := (mkF m 15 #[.val (.int p1), .val (.int p2), .val (.int (1 : Int32)), .val (.int (1 : Int32)), .unset, .unset, .unset] [(.int (1 : Int32))])) rfl (by rw [hml]; rfl) (argsL := [(.int (1 : Int32))]) (rest := []) (lenOf pd0 rfl) rfl (by show 2 * 0 + _ ≤ _; exact Nat.le_of_eq rfl) (hb hby at_15) (fun _ _ => ⟨rfl, e0, (by decide : 0 + 0 ≤ _), (by decide : 0 + 0 ≤ _)⟩)
      dsimp only [Pt.U, Pt.locs, Pt.cells, Pt.slots] at X44 l44 y44 z44 st44 hQ44
      subst l44 y44 z44
      obtain ⟨rfl, Nq44, e44⟩ := hQ44
      have N44 := Fr.app N0 Nq44
      refine Goes.by st44 ?_
      refine Goes.by (fun _ kz => XS.astore X44.here hx rfl (hb hby at_18) rfl rfl (l' := #[.val (.int p1), .val (.int p2), .val (.int (1 : Int32)), .val (.int (1 : Int32)), .val (.ref (w 3)), .unset, .unset]) rfl (XS.iloadN X44.here hx rfl (hb hby at_20) rfl kz)) ?_
      obtain ⟨_, _, ⟨T45, L45, k45, n45⟩, -, X45, ⟨Lc45, hQ45, l45, y45, z45⟩, st45⟩ := Jvm.LawKit.callS X44 hx (y := (⟨"com/example/nextkey/nextkey/lock/LockKindCoversPinLaw", "kind", "(I)Lcom/example/nextkey/nextkey/lock/LockKind;"⟩ : MethodName)) hown (mvT hZ (hw _ (List.mem_of_getElem? (i := 1) rfl))) (mvT hZ (hw _ (List.mem_of_getElem? (i := 2) rfl))) (mvT hZ (hw _ (List.mem_of_getElem? (i := 3) rfl))) (mvT hZ (hw _ (List.mem_of_getElem? (i := 4) rfl))) (by decide) (backOf (W := 0) (r1_3 l Z a0 hw [] h0 n0 Z0 w P) hZ (hw _ (List.mem_of_getElem? (i := 4) rfl)) (hw _ (List.mem_of_getElem? (i := 3) rfl)) (by decide) (by decide)) (g := (mkF m 21 #[.val (.int p1), .val (.int p2), .val (.int (1 : Int32)), .val (.int (1 : Int32)), .val (.ref (w 3)), .unset, .unset] [(.int (1 : Int32))])) rfl (by rw [hml]; rfl) (argsL := [(.int (1 : Int32))]) (rest := []) (lenOf pd0 rfl) rfl (by show 2 * 0 + _ ≤ _; exact Nat.le_of_eq rfl) (hb hby at_21) (fun _ _ => ⟨rfl, e44, (by decide : 0 + 0 ≤ _), (by decide : 0 + 0 ≤ _)⟩)
      dsimp only [Pt.U, Pt.locs, Pt.cells, Pt.slots] at X45 l45 y45 z45 st45 hQ45
      subst l45 y45 z45
      obtain ⟨rfl, Nq45, e45⟩ := hQ45
      have N45 := Fr.app N44 Nq45
      refine Goes.by st45 ?_
      refine Goes.by (fun _ kz => XS.astore X45.here hx rfl (hb hby at_24) rfl rfl (l' := #[.val (.int p1), .val (.int p2), .val (.int (1 : Int32)), .val (.int (1 : Int32)), .val (.ref (w 3)), .val (.ref (w 3)), .unset]) rfl (XS.iloadN X45.here hx rfl (hb hby at_26) rfl (XS.iconst X45.here hx rfl (hb hby at_27) kz))) ?_
      show Goes p e below (T45.setTop (mkF m 28 #[.val (.int p1), .val (.int p2), .val (.int (1 : Int32)), .val (.int (1 : Int32)), .val (.ref (w 3)), .val (.ref (w 3)), .unset] [(.int (4 : Int32)), (.int (1 : Int32))])) _
      refine Goes.by (fun _ kz => XS.icmpNo X45.here hx rfl (hb hby at_28) rfl (feq (by decide : ¬ ((1 : Int32) = (4 : Int32)))).1 (XS.iloadN X45.here hx rfl (hb hby at_31) rfl (XS.iconst X45.here hx rfl (hb hby at_32) kz))) ?_
      show Goes p e below (T45.setTop (mkF m 33 #[.val (.int p1), .val (.int p2), .val (.int (1 : Int32)), .val (.int (1 : Int32)), .val (.ref (w 3)), .val (.ref (w 3)), .unset] [(.int (4 : Int32)), (.int (1 : Int32))])) _
      refine Goes.by (fun _ kz => XS.icmpNo X45.here hx rfl (hb hby at_33) rfl (feq (by decide : ¬ ((1 : Int32) = (4 : Int32)))).1 (XS.iloadN X45.here hx rfl (hb hby at_36) rfl kz)) ?_
      obtain ⟨_, _, ⟨T46, L46, k46, n46⟩, -, X46, ⟨Lc46, hQ46, l46, y46, z46⟩, st46⟩ := Jvm.LawKit.callS X45 hx (y := (⟨"com/example/nextkey/nextkey/lock/LockKindCoversPinLaw", "parts", "(I)I"⟩ : MethodName)) hown (mvT hZ (hw _ (List.mem_of_getElem? (i := 10) rfl))) (mvT hZ (hw _ (List.mem_of_getElem? (i := 11) rfl))) (mvT hZ (hw _ (List.mem_of_getElem? (i := 3) rfl))) (mvT hZ (hw _ (List.mem_of_getElem? (i := 12) rfl))) (by decide) (backOf (W := 0) (r2_4 l Z a0 hw [] h0 n0 Z0 w P) hZ (hw _ (List.mem_of_getElem? (i := 12) rfl)) (hw _ (List.mem_of_getElem? (i := 3) rfl)) (by decide) (by decide)) (g := (mkF m 37 #[.val (.int p1), .val (.int p2), .val (.int (1 : Int32)), .val (.int (1 : Int32)), .val (.ref (w 3)), .val (.ref (w 3)), .unset] [(.int (1 : Int32))])) rfl (by rw [hml]; rfl) (argsL := [(.int (1 : Int32))]) (rest := []) (lenOf pd1 rfl) rfl (by show 2 * 0 + _ ≤ _; exact Nat.le_of_eq rfl) (hb hby at_37) (fun _ _ => ⟨rfl, e45, (by decide : 0 + 0 ≤ _), (by decide : 0 + 0 ≤ _)⟩)
      dsimp only [Pt.U, Pt.locs, Pt.cells, Pt.slots] at X46 l46 y46 z46 st46 hQ46
      subst l46 y46 z46
      obtain ⟨rfl, Nq46, e46⟩ := hQ46
      have N46 := Fr.app N45 Nq46
      refine Goes.by st46 ?_
      refine Goes.by (fun _ kz => XS.iloadN X46.here hx rfl (hb hby at_40) rfl kz) ?_
      obtain ⟨_, _, ⟨T47, L47, k47, n47⟩, -, X47, ⟨Lc47, hQ47, l47, y47, z47⟩, st47⟩ := Jvm.LawKit.callS X46 hx (y := (⟨"com/example/nextkey/nextkey/lock/LockKindCoversPinLaw", "parts", "(I)I"⟩ : MethodName)) hown (mvT hZ (hw _ (List.mem_of_getElem? (i := 10) rfl))) (mvT hZ (hw _ (List.mem_of_getElem? (i := 11) rfl))) (mvT hZ (hw _ (List.mem_of_getElem? (i := 3) rfl))) (mvT hZ (hw _ (List.mem_of_getElem? (i := 12) rfl))) (by decide) (backOf (W := 1) (r2_4 l Z a0 hw [] h0 n0 Z0 w P) hZ (hw _ (List.mem_of_getElem? (i := 12) rfl)) (hw _ (List.mem_of_getElem? (i := 3) rfl)) (by decide) (by decide)) (g := (mkF m 41 #[.val (.int p1), .val (.int p2), .val (.int (1 : Int32)), .val (.int (1 : Int32)), .val (.ref (w 3)), .val (.ref (w 3)), .unset] [(.int (1 : Int32)), (.int (2 : Int32))])) rfl (by rw [hml]; rfl) (argsL := [(.int (1 : Int32))]) (rest := [(.int (2 : Int32))]) (lenOf pd1 rfl) rfl (by show 2 * 0 + _ ≤ _; exact Nat.le_of_eq rfl) (hb hby at_41) (fun _ _ => ⟨rfl, e46, (by decide : 0 + 0 ≤ _), (by decide : 0 + 0 ≤ _)⟩)
      dsimp only [Pt.U, Pt.locs, Pt.cells, Pt.slots] at X47 l47 y47 z47 st47 hQ47
      subst l47 y47 z47
      obtain ⟨rfl, Nq47, e47⟩ := hQ47
      have N47 := Fr.app N46 Nq47
      refine Goes.by st47 ?_
      refine Goes.by (fun _ kz => XS.iconst X47.here hx rfl (hb hby at_44) (XS.ixor X47.here hx rfl (hb hby at_45) rfl kz)) ?_
      show Goes p e below (T47.setTop (mkF m 46 #[.val (.int p1), .val (.int p2), .val (.int (1 : Int32)), .val (.int (1 : Int32)), .val (.ref (w 3)), .val (.ref (w 3)), .unset] [(.int ((2 : Int32) ^^^ (-1 : Int32))), (.int (2 : Int32))])) _
      rw [show (((2 : Int32) ^^^ (-1 : Int32)) : Int32) = (-3 : Int32) from by decide]
      show Goes p e below (T47.setTop (mkF m 46 #[.val (.int p1), .val (.int p2), .val (.int (1 : Int32)), .val (.int (1 : Int32)), .val (.ref (w 3)), .val (.ref (w 3)), .unset] [(.int (-3 : Int32)), (.int (2 : Int32))])) _
      refine Goes.by (fun _ kz => XS.iand X47.here hx rfl (hb hby at_46) rfl kz) ?_
      show Goes p e below (T47.setTop (mkF m 47 #[.val (.int p1), .val (.int p2), .val (.int (1 : Int32)), .val (.int (1 : Int32)), .val (.ref (w 3)), .val (.ref (w 3)), .unset] [(.int ((2 : Int32) &&& (-3 : Int32)))])) _
      rw [show (((2 : Int32) &&& (-3 : Int32)) : Int32) = (0 : Int32) from by decide]
      show Goes p e below (T47.setTop (mkF m 47 #[.val (.int p1), .val (.int p2), .val (.int (1 : Int32)), .val (.int (1 : Int32)), .val (.ref (w 3)), .val (.ref (w 3)), .unset] [(.int (0 : Int32))])) _
      refine Goes.by (fun _ kz => XS.ifNo X47.here hx rfl (hb hby at_47) rfl ((if0 _ _).trans (teq (by decide : (0 : Int32) = (0 : Int32))).2) (XS.iconst X47.here hx rfl (hb hby at_50) (XS.goto X47.here hx rfl (pc0 := 51) (pc' := 55) rfl (hb hby at_51) (by decide) (by decide) kz))) ?_
      show Goes p e below (T47.setTop (mkF m 55 #[.val (.int p1), .val (.int p2), .val (.int (1 : Int32)), .val (.int (1 : Int32)), .val (.ref (w 3)), .val (.ref (w 3)), .unset] [(.int (1 : Int32))])) _
      refine Goes.by (fun _ kz => XS.istore X47.here hx rfl (hb hby at_55) rfl (l' := #[.val (.int p1), .val (.int p2), .val (.int (1 : Int32)), .val (.int (1 : Int32)), .val (.ref (w 3)), .val (.ref (w 3)), .val (.int (1 : Int32))]) rfl (XS.aload X47.here hx rfl (hb hby at_57) rfl rfl (XS.aload X47.here hx rfl (hb hby at_59) rfl rfl kz))) ?_
      obtain ⟨cq49, kq49, q49a, q49b, q49c⟩ := isOf hZ e47 P.2.2.2.2.2.2.2.1
      obtain ⟨_, _, ⟨T49, L49, k49, n49⟩, -, X49, ⟨Lc49, hQ49, l49, y49, z49⟩, st49⟩ := X47.virtualBack hx (y := (⟨"com/example/nextkey/nextkey/lock/LockKind", "covers", "(Lcom/example/nextkey/nextkey/lock/LockKind;)Z"⟩ : MethodName)) (z := (⟨"com/example/nextkey/nextkey/lock/LockKind", "covers", "(Lcom/example/nextkey/nextkey/lock/LockKind;)Z"⟩ : MethodName)) hown (mvT hZ (hw _ (List.mem_of_getElem? (i := 13) rfl))) (mvT hZ (hw _ (List.mem_of_getElem? (i := 14) rfl))) (notFace_of_selects (args := #[]) (mvT hZ (hw _ (List.mem_of_getElem? (i := 16) rfl)))) (mvT hZ (hw _ (List.mem_of_getElem? (i := 16) rfl))) (mvT hZ (hw _ (List.mem_of_getElem? (i := 15) rfl))) (by decide) (backOf (W := 0) (r3_15 l Z a0 hw [] h0 n0 Z0 w P) hZ (hw _ (List.mem_of_getElem? (i := 17) rfl)) (hw _ (List.mem_of_getElem? (i := 6) rfl)) (by decide) (by decide)) q49a q49c (g := (mkF m 61 #[.val (.int p1), .val (.int p2), .val (.int (1 : Int32)), .val (.int (1 : Int32)), .val (.ref (w 3)), .val (.ref (w 3)), .val (.int (1 : Int32))] [(.ref (w 3)), (.ref (w 3))])) rfl (by rw [hml]; rfl) (Steps.refl _) (argsL := [(.ref (w 3))]) (rest := []) (lenOf pd2 rfl) rfl (by show 2 * 0 + _ ≤ _; exact Nat.le_of_eq rfl) (hb hby at_61) (fun _ _ => ⟨rfl, e47, (by decide : 0 + 0 ≤ _), (by decide : 0 + 0 ≤ _)⟩)
      dsimp only [Pt.U, Pt.locs, Pt.cells, Pt.slots] at X49 l49 y49 z49 st49 hQ49
      subst l49 y49 z49
      obtain ⟨rfl, Nq49, e49⟩ := hQ49
      have N49 := Fr.app N47 Nq49
      refine Goes.tr st49 ?_
      refine Goes.by (fun _ kz => XS.iload X49.here hx rfl (hb hby at_64) rfl (XS.icmpNo X49.here hx rfl (hb hby at_66) rfl (teq (by decide : (1 : Int32) = (1 : Int32))).2 (XS.iconst X49.here hx rfl (hb hby at_69) kz))) ?_
      show Goes p e below (T49.setTop (mkF m 70 #[.val (.int p1), .val (.int p2), .val (.int (1 : Int32)), .val (.int (1 : Int32)), .val (.ref (w 3)), .val (.ref (w 3)), .val (.int (1 : Int32))] [(.int (1 : Int32))])) _
      refine Goes.by (fun _ kz => XS.goto X49.here hx rfl (pc0 := 70) (pc' := 74) rfl (hb hby at_70) (by decide) (by decide) kz) ?_
      show Goes p e below (T49.setTop (mkF m 74 #[.val (.int p1), .val (.int p2), .val (.int (1 : Int32)), .val (.int (1 : Int32)), .val (.ref (w 3)), .val (.ref (w 3)), .val (.int (1 : Int32))] [(.int (1 : Int32))])) _
      obtain ⟨fs, hr, hrun, hended, hW, hsame⟩ := X49.leave (v := some (.int (1 : Int32))) (fun h => by rw [Bd.returns] at h; cases h)
      exact ⟨_, _, retN X49 hx (t := .boolean) Bd.returns (by simp) (hb hby at_74) hr, hrun, hended, _, _, rfl, ⟨rfl, N49⟩, ⟨_, rfl⟩, hW, hsame.mono (by decide) (by decide)⟩
    · show Goes p e below (s₁.setTop (mkF m 14 #[.val (.int p1), .val (.int p2), .val (.int (1 : Int32)), .val (.int (2 : Int32)), .unset, .unset, .unset] [])) _
      refine Goes.by (fun _ kz => XS.iloadN X0.here hx rfl (hb hby at_14) rfl kz) ?_
      obtain ⟨_, _, ⟨T50, L50, k50, n50⟩, -, X50, ⟨Lc50, hQ50, l50, y50, z50⟩, st50⟩ := Jvm.LawKit.callS X0 hx (y := (⟨"com/example/nextkey/nextkey/lock/LockKindCoversPinLaw", "kind", "(I)Lcom/example/nextkey/nextkey/lock/LockKind;"⟩ : MethodName)) hown (mvT hZ (hw _ (List.mem_of_getElem? (i := 1) rfl))) (mvT hZ (hw _ (List.mem_of_getElem? (i := 2) rfl))) (mvT hZ (hw _ (List.mem_of_getElem? (i := 3) rfl))) (mvT hZ (hw _ (List.mem_of_getElem? (i := 4) rfl))) (by decide) (backOf (W := 0) (r1_3 l Z a0 hw [] h0 n0 Z0 w P) hZ (hw _ (List.mem_of_getElem? (i := 4) rfl)) (hw _ (List.mem_of_getElem? (i := 3) rfl)) (by decide) (by decide)) (g := (mkF m 15 #[.val (.int p1), .val (.int p2), .val (.int (1 : Int32)), .val (.int (2 : Int32)), .unset, .unset, .unset] [(.int (1 : Int32))])) rfl (by rw [hml]; rfl) (argsL := [(.int (1 : Int32))]) (rest := []) (lenOf pd0 rfl) rfl (by show 2 * 0 + _ ≤ _; exact Nat.le_of_eq rfl) (hb hby at_15) (fun _ _ => ⟨rfl, e0, (by decide : 0 + 0 ≤ _), (by decide : 0 + 0 ≤ _)⟩)
      dsimp only [Pt.U, Pt.locs, Pt.cells, Pt.slots] at X50 l50 y50 z50 st50 hQ50
      subst l50 y50 z50
      obtain ⟨rfl, Nq50, e50⟩ := hQ50
      have N50 := Fr.app N0 Nq50
      refine Goes.by st50 ?_
      refine Goes.by (fun _ kz => XS.astore X50.here hx rfl (hb hby at_18) rfl rfl (l' := #[.val (.int p1), .val (.int p2), .val (.int (1 : Int32)), .val (.int (2 : Int32)), .val (.ref (w 3)), .unset, .unset]) rfl (XS.iloadN X50.here hx rfl (hb hby at_20) rfl kz)) ?_
      obtain ⟨_, _, ⟨T51, L51, k51, n51⟩, -, X51, ⟨Lc51, hQ51, l51, y51, z51⟩, st51⟩ := Jvm.LawKit.callS X50 hx (y := (⟨"com/example/nextkey/nextkey/lock/LockKindCoversPinLaw", "kind", "(I)Lcom/example/nextkey/nextkey/lock/LockKind;"⟩ : MethodName)) hown (mvT hZ (hw _ (List.mem_of_getElem? (i := 1) rfl))) (mvT hZ (hw _ (List.mem_of_getElem? (i := 2) rfl))) (mvT hZ (hw _ (List.mem_of_getElem? (i := 3) rfl))) (mvT hZ (hw _ (List.mem_of_getElem? (i := 4) rfl))) (by decide) (backOf (W := 0) (r1_6 l Z a0 hw [] h0 n0 Z0 w P) hZ (hw _ (List.mem_of_getElem? (i := 4) rfl)) (hw _ (List.mem_of_getElem? (i := 3) rfl)) (by decide) (by decide)) (g := (mkF m 21 #[.val (.int p1), .val (.int p2), .val (.int (1 : Int32)), .val (.int (2 : Int32)), .val (.ref (w 3)), .unset, .unset] [(.int (2 : Int32))])) rfl (by rw [hml]; rfl) (argsL := [(.int (2 : Int32))]) (rest := []) (lenOf pd0 rfl) rfl (by show 2 * 0 + _ ≤ _; exact Nat.le_of_eq rfl) (hb hby at_21) (fun _ _ => ⟨rfl, e50, (by decide : 0 + 0 ≤ _), (by decide : 0 + 0 ≤ _)⟩)
      dsimp only [Pt.U, Pt.locs, Pt.cells, Pt.slots] at X51 l51 y51 z51 st51 hQ51
      subst l51 y51 z51
      obtain ⟨rfl, Nq51, e51⟩ := hQ51
      have N51 := Fr.app N50 Nq51
      refine Goes.by st51 ?_
      refine Goes.by (fun _ kz => XS.astore X51.here hx rfl (hb hby at_24) rfl rfl (l' := #[.val (.int p1), .val (.int p2), .val (.int (1 : Int32)), .val (.int (2 : Int32)), .val (.ref (w 3)), .val (.ref (w 4)), .unset]) rfl (XS.iloadN X51.here hx rfl (hb hby at_26) rfl (XS.iconst X51.here hx rfl (hb hby at_27) kz))) ?_
      show Goes p e below (T51.setTop (mkF m 28 #[.val (.int p1), .val (.int p2), .val (.int (1 : Int32)), .val (.int (2 : Int32)), .val (.ref (w 3)), .val (.ref (w 4)), .unset] [(.int (4 : Int32)), (.int (1 : Int32))])) _
      refine Goes.by (fun _ kz => XS.icmpNo X51.here hx rfl (hb hby at_28) rfl (feq (by decide : ¬ ((1 : Int32) = (4 : Int32)))).1 (XS.iloadN X51.here hx rfl (hb hby at_31) rfl (XS.iconst X51.here hx rfl (hb hby at_32) kz))) ?_
      show Goes p e below (T51.setTop (mkF m 33 #[.val (.int p1), .val (.int p2), .val (.int (1 : Int32)), .val (.int (2 : Int32)), .val (.ref (w 3)), .val (.ref (w 4)), .unset] [(.int (4 : Int32)), (.int (2 : Int32))])) _
      refine Goes.by (fun _ kz => XS.icmpNo X51.here hx rfl (hb hby at_33) rfl (feq (by decide : ¬ ((2 : Int32) = (4 : Int32)))).1 (XS.iloadN X51.here hx rfl (hb hby at_36) rfl kz)) ?_
      obtain ⟨_, _, ⟨T52, L52, k52, n52⟩, -, X52, ⟨Lc52, hQ52, l52, y52, z52⟩, st52⟩ := Jvm.LawKit.callS X51 hx (y := (⟨"com/example/nextkey/nextkey/lock/LockKindCoversPinLaw", "parts", "(I)I"⟩ : MethodName)) hown (mvT hZ (hw _ (List.mem_of_getElem? (i := 10) rfl))) (mvT hZ (hw _ (List.mem_of_getElem? (i := 11) rfl))) (mvT hZ (hw _ (List.mem_of_getElem? (i := 3) rfl))) (mvT hZ (hw _ (List.mem_of_getElem? (i := 12) rfl))) (by decide) (backOf (W := 0) (r2_7 l Z a0 hw [] h0 n0 Z0 w P) hZ (hw _ (List.mem_of_getElem? (i := 12) rfl)) (hw _ (List.mem_of_getElem? (i := 3) rfl)) (by decide) (by decide)) (g := (mkF m 37 #[.val (.int p1), .val (.int p2), .val (.int (1 : Int32)), .val (.int (2 : Int32)), .val (.ref (w 3)), .val (.ref (w 4)), .unset] [(.int (2 : Int32))])) rfl (by rw [hml]; rfl) (argsL := [(.int (2 : Int32))]) (rest := []) (lenOf pd1 rfl) rfl (by show 2 * 0 + _ ≤ _; exact Nat.le_of_eq rfl) (hb hby at_37) (fun _ _ => ⟨rfl, e51, (by decide : 0 + 0 ≤ _), (by decide : 0 + 0 ≤ _)⟩)
      dsimp only [Pt.U, Pt.locs, Pt.cells, Pt.slots] at X52 l52 y52 z52 st52 hQ52
      subst l52 y52 z52
      obtain ⟨rfl, Nq52, e52⟩ := hQ52
      have N52 := Fr.app N51 Nq52
      refine Goes.by st52 ?_
      refine Goes.by (fun _ kz => XS.iloadN X52.here hx rfl (hb hby at_40) rfl kz) ?_
      obtain ⟨_, _, ⟨T53, L53, k53, n53⟩, -, X53, ⟨Lc53, hQ53, l53, y53, z53⟩, st53⟩ := Jvm.LawKit.callS X52 hx (y := (⟨"com/example/nextkey/nextkey/lock/LockKindCoversPinLaw", "parts", "(I)I"⟩ : MethodName)) hown (mvT hZ (hw _ (List.mem_of_getElem? (i := 10) rfl))) (mvT hZ (hw _ (List.mem_of_getElem? (i := 11) rfl))) (mvT hZ (hw _ (List.mem_of_getElem? (i := 3) rfl))) (mvT hZ (hw _ (List.mem_of_getElem? (i := 12) rfl))) (by decide) (backOf (W := 1) (r2_4 l Z a0 hw [] h0 n0 Z0 w P) hZ (hw _ (List.mem_of_getElem? (i := 12) rfl)) (hw _ (List.mem_of_getElem? (i := 3) rfl)) (by decide) (by decide)) (g := (mkF m 41 #[.val (.int p1), .val (.int p2), .val (.int (1 : Int32)), .val (.int (2 : Int32)), .val (.ref (w 3)), .val (.ref (w 4)), .unset] [(.int (1 : Int32)), (.int (4 : Int32))])) rfl (by rw [hml]; rfl) (argsL := [(.int (1 : Int32))]) (rest := [(.int (4 : Int32))]) (lenOf pd1 rfl) rfl (by show 2 * 0 + _ ≤ _; exact Nat.le_of_eq rfl) (hb hby at_41) (fun _ _ => ⟨rfl, e52, (by decide : 0 + 0 ≤ _), (by decide : 0 + 0 ≤ _)⟩)
      dsimp only [Pt.U, Pt.locs, Pt.cells, Pt.slots] at X53 l53 y53 z53 st53 hQ53
      subst l53 y53 z53
      obtain ⟨rfl, Nq53, e53⟩ := hQ53
      have N53 := Fr.app N52 Nq53
      refine Goes.by st53 ?_
      refine Goes.by (fun _ kz => XS.iconst X53.here hx rfl (hb hby at_44) (XS.ixor X53.here hx rfl (hb hby at_45) rfl kz)) ?_
      show Goes p e below (T53.setTop (mkF m 46 #[.val (.int p1), .val (.int p2), .val (.int (1 : Int32)), .val (.int (2 : Int32)), .val (.ref (w 3)), .val (.ref (w 4)), .unset] [(.int ((2 : Int32) ^^^ (-1 : Int32))), (.int (4 : Int32))])) _
      rw [show (((2 : Int32) ^^^ (-1 : Int32)) : Int32) = (-3 : Int32) from by decide]
      show Goes p e below (T53.setTop (mkF m 46 #[.val (.int p1), .val (.int p2), .val (.int (1 : Int32)), .val (.int (2 : Int32)), .val (.ref (w 3)), .val (.ref (w 4)), .unset] [(.int (-3 : Int32)), (.int (4 : Int32))])) _
      refine Goes.by (fun _ kz => XS.iand X53.here hx rfl (hb hby at_46) rfl kz) ?_
      show Goes p e below (T53.setTop (mkF m 47 #[.val (.int p1), .val (.int p2), .val (.int (1 : Int32)), .val (.int (2 : Int32)), .val (.ref (w 3)), .val (.ref (w 4)), .unset] [(.int ((4 : Int32) &&& (-3 : Int32)))])) _
      rw [show (((4 : Int32) &&& (-3 : Int32)) : Int32) = (4 : Int32) from by decide]
      show Goes p e below (T53.setTop (mkF m 47 #[.val (.int p1), .val (.int p2), .val (.int (1 : Int32)), .val (.int (2 : Int32)), .val (.ref (w 3)), .val (.ref (w 4)), .unset] [(.int (4 : Int32))])) _
      refine Goes.by (fun _ kz => XS.ifYes X53.here hx rfl (pc0 := 47) (pc' := 54) rfl (hb hby at_47) rfl ((if0 _ _).trans (feq (by decide : ¬ ((4 : Int32) = (0 : Int32)))).2) (by decide) (by decide) (XS.iconst X53.here hx rfl (hb hby at_54) (XS.istore X53.here hx rfl (hb hby at_55) rfl (l' := #[.val (.int p1), .val (.int p2), .val (.int (1 : Int32)), .val (.int (2 : Int32)), .val (.ref (w 3)), .val (.ref (w 4)), .val (.int (0 : Int32))]) rfl kz))) ?_
      show Goes p e below (T53.setTop (mkF m 57 #[.val (.int p1), .val (.int p2), .val (.int (1 : Int32)), .val (.int (2 : Int32)), .val (.ref (w 3)), .val (.ref (w 4)), .val (.int (0 : Int32))] [])) _
      refine Goes.by (fun _ kz => XS.aload X53.here hx rfl (hb hby at_57) rfl rfl (XS.aload X53.here hx rfl (hb hby at_59) rfl rfl kz)) ?_
      obtain ⟨cq56, kq56, q56a, q56b, q56c⟩ := isOf hZ e53 P.2.2.2.2.2.2.2.1
      obtain ⟨_, _, ⟨T56, L56, k56, n56⟩, -, X56, ⟨Lc56, hQ56, l56, y56, z56⟩, st56⟩ := X53.virtualBack hx (y := (⟨"com/example/nextkey/nextkey/lock/LockKind", "covers", "(Lcom/example/nextkey/nextkey/lock/LockKind;)Z"⟩ : MethodName)) (z := (⟨"com/example/nextkey/nextkey/lock/LockKind", "covers", "(Lcom/example/nextkey/nextkey/lock/LockKind;)Z"⟩ : MethodName)) hown (mvT hZ (hw _ (List.mem_of_getElem? (i := 13) rfl))) (mvT hZ (hw _ (List.mem_of_getElem? (i := 14) rfl))) (notFace_of_selects (args := #[]) (mvT hZ (hw _ (List.mem_of_getElem? (i := 16) rfl)))) (mvT hZ (hw _ (List.mem_of_getElem? (i := 16) rfl))) (mvT hZ (hw _ (List.mem_of_getElem? (i := 15) rfl))) (by decide) (backOf (W := 0) (r3_16 l Z a0 hw [] h0 n0 Z0 w P) hZ (hw _ (List.mem_of_getElem? (i := 17) rfl)) (hw _ (List.mem_of_getElem? (i := 6) rfl)) (by decide) (by decide)) q56a q56c (g := (mkF m 61 #[.val (.int p1), .val (.int p2), .val (.int (1 : Int32)), .val (.int (2 : Int32)), .val (.ref (w 3)), .val (.ref (w 4)), .val (.int (0 : Int32))] [(.ref (w 4)), (.ref (w 3))])) rfl (by rw [hml]; rfl) (Steps.refl _) (argsL := [(.ref (w 4))]) (rest := []) (lenOf pd2 rfl) rfl (by show 2 * 0 + _ ≤ _; exact Nat.le_of_eq rfl) (hb hby at_61) (fun _ _ => ⟨rfl, e53, (by decide : 0 + 0 ≤ _), (by decide : 0 + 0 ≤ _)⟩)
      dsimp only [Pt.U, Pt.locs, Pt.cells, Pt.slots] at X56 l56 y56 z56 st56 hQ56
      subst l56 y56 z56
      obtain ⟨rfl, Nq56, e56⟩ := hQ56
      have N56 := Fr.app N53 Nq56
      refine Goes.tr st56 ?_
      refine Goes.by (fun _ kz => XS.iload X56.here hx rfl (hb hby at_64) rfl (XS.icmpNo X56.here hx rfl (hb hby at_66) rfl (teq (by decide : (0 : Int32) = (0 : Int32))).2 (XS.iconst X56.here hx rfl (hb hby at_69) kz))) ?_
      show Goes p e below (T56.setTop (mkF m 70 #[.val (.int p1), .val (.int p2), .val (.int (1 : Int32)), .val (.int (2 : Int32)), .val (.ref (w 3)), .val (.ref (w 4)), .val (.int (0 : Int32))] [(.int (1 : Int32))])) _
      refine Goes.by (fun _ kz => XS.goto X56.here hx rfl (pc0 := 70) (pc' := 74) rfl (hb hby at_70) (by decide) (by decide) kz) ?_
      show Goes p e below (T56.setTop (mkF m 74 #[.val (.int p1), .val (.int p2), .val (.int (1 : Int32)), .val (.int (2 : Int32)), .val (.ref (w 3)), .val (.ref (w 4)), .val (.int (0 : Int32))] [(.int (1 : Int32))])) _
      obtain ⟨fs, hr, hrun, hended, hW, hsame⟩ := X56.leave (v := some (.int (1 : Int32))) (fun h => by rw [Bd.returns] at h; cases h)
      exact ⟨_, _, retN X56 hx (t := .boolean) Bd.returns (by simp) (hb hby at_74) hr, hrun, hended, _, _, rfl, ⟨rfl, N56⟩, ⟨_, rfl⟩, hW, hsame.mono (by decide) (by decide)⟩
    · show Goes p e below (s₁.setTop (mkF m 14 #[.val (.int p1), .val (.int p2), .val (.int (1 : Int32)), .val (.int (3 : Int32)), .unset, .unset, .unset] [])) _
      refine Goes.by (fun _ kz => XS.iloadN X0.here hx rfl (hb hby at_14) rfl kz) ?_
      obtain ⟨_, _, ⟨T57, L57, k57, n57⟩, -, X57, ⟨Lc57, hQ57, l57, y57, z57⟩, st57⟩ := Jvm.LawKit.callS X0 hx (y := (⟨"com/example/nextkey/nextkey/lock/LockKindCoversPinLaw", "kind", "(I)Lcom/example/nextkey/nextkey/lock/LockKind;"⟩ : MethodName)) hown (mvT hZ (hw _ (List.mem_of_getElem? (i := 1) rfl))) (mvT hZ (hw _ (List.mem_of_getElem? (i := 2) rfl))) (mvT hZ (hw _ (List.mem_of_getElem? (i := 3) rfl))) (mvT hZ (hw _ (List.mem_of_getElem? (i := 4) rfl))) (by decide) (backOf (W := 0) (r1_3 l Z a0 hw [] h0 n0 Z0 w P) hZ (hw _ (List.mem_of_getElem? (i := 4) rfl)) (hw _ (List.mem_of_getElem? (i := 3) rfl)) (by decide) (by decide)) (g := (mkF m 15 #[.val (.int p1), .val (.int p2), .val (.int (1 : Int32)), .val (.int (3 : Int32)), .unset, .unset, .unset] [(.int (1 : Int32))])) rfl (by rw [hml]; rfl) (argsL := [(.int (1 : Int32))]) (rest := []) (lenOf pd0 rfl) rfl (by show 2 * 0 + _ ≤ _; exact Nat.le_of_eq rfl) (hb hby at_15) (fun _ _ => ⟨rfl, e0, (by decide : 0 + 0 ≤ _), (by decide : 0 + 0 ≤ _)⟩)
      dsimp only [Pt.U, Pt.locs, Pt.cells, Pt.slots] at X57 l57 y57 z57 st57 hQ57
      subst l57 y57 z57
      obtain ⟨rfl, Nq57, e57⟩ := hQ57
      have N57 := Fr.app N0 Nq57
      refine Goes.by st57 ?_
      refine Goes.by (fun _ kz => XS.astore X57.here hx rfl (hb hby at_18) rfl rfl (l' := #[.val (.int p1), .val (.int p2), .val (.int (1 : Int32)), .val (.int (3 : Int32)), .val (.ref (w 3)), .unset, .unset]) rfl (XS.iloadN X57.here hx rfl (hb hby at_20) rfl kz)) ?_
      obtain ⟨_, _, ⟨T58, L58, k58, n58⟩, -, X58, ⟨Lc58, hQ58, l58, y58, z58⟩, st58⟩ := Jvm.LawKit.callS X57 hx (y := (⟨"com/example/nextkey/nextkey/lock/LockKindCoversPinLaw", "kind", "(I)Lcom/example/nextkey/nextkey/lock/LockKind;"⟩ : MethodName)) hown (mvT hZ (hw _ (List.mem_of_getElem? (i := 1) rfl))) (mvT hZ (hw _ (List.mem_of_getElem? (i := 2) rfl))) (mvT hZ (hw _ (List.mem_of_getElem? (i := 3) rfl))) (mvT hZ (hw _ (List.mem_of_getElem? (i := 4) rfl))) (by decide) (backOf (W := 0) (r1_9 l Z a0 hw [] h0 n0 Z0 w P) hZ (hw _ (List.mem_of_getElem? (i := 4) rfl)) (hw _ (List.mem_of_getElem? (i := 3) rfl)) (by decide) (by decide)) (g := (mkF m 21 #[.val (.int p1), .val (.int p2), .val (.int (1 : Int32)), .val (.int (3 : Int32)), .val (.ref (w 3)), .unset, .unset] [(.int (3 : Int32))])) rfl (by rw [hml]; rfl) (argsL := [(.int (3 : Int32))]) (rest := []) (lenOf pd0 rfl) rfl (by show 2 * 0 + _ ≤ _; exact Nat.le_of_eq rfl) (hb hby at_21) (fun _ _ => ⟨rfl, e57, (by decide : 0 + 0 ≤ _), (by decide : 0 + 0 ≤ _)⟩)
      dsimp only [Pt.U, Pt.locs, Pt.cells, Pt.slots] at X58 l58 y58 z58 st58 hQ58
      subst l58 y58 z58
      obtain ⟨rfl, Nq58, e58⟩ := hQ58
      have N58 := Fr.app N57 Nq58
      refine Goes.by st58 ?_
      refine Goes.by (fun _ kz => XS.astore X58.here hx rfl (hb hby at_24) rfl rfl (l' := #[.val (.int p1), .val (.int p2), .val (.int (1 : Int32)), .val (.int (3 : Int32)), .val (.ref (w 3)), .val (.ref (w 1)), .unset]) rfl (XS.iloadN X58.here hx rfl (hb hby at_26) rfl (XS.iconst X58.here hx rfl (hb hby at_27) kz))) ?_
      show Goes p e below (T58.setTop (mkF m 28 #[.val (.int p1), .val (.int p2), .val (.int (1 : Int32)), .val (.int (3 : Int32)), .val (.ref (w 3)), .val (.ref (w 1)), .unset] [(.int (4 : Int32)), (.int (1 : Int32))])) _
      refine Goes.by (fun _ kz => XS.icmpNo X58.here hx rfl (hb hby at_28) rfl (feq (by decide : ¬ ((1 : Int32) = (4 : Int32)))).1 (XS.iloadN X58.here hx rfl (hb hby at_31) rfl (XS.iconst X58.here hx rfl (hb hby at_32) kz))) ?_
      show Goes p e below (T58.setTop (mkF m 33 #[.val (.int p1), .val (.int p2), .val (.int (1 : Int32)), .val (.int (3 : Int32)), .val (.ref (w 3)), .val (.ref (w 1)), .unset] [(.int (4 : Int32)), (.int (3 : Int32))])) _
      refine Goes.by (fun _ kz => XS.icmpNo X58.here hx rfl (hb hby at_33) rfl (feq (by decide : ¬ ((3 : Int32) = (4 : Int32)))).1 (XS.iloadN X58.here hx rfl (hb hby at_36) rfl kz)) ?_
      obtain ⟨_, _, ⟨T59, L59, k59, n59⟩, -, X59, ⟨Lc59, hQ59, l59, y59, z59⟩, st59⟩ := Jvm.LawKit.callS X58 hx (y := (⟨"com/example/nextkey/nextkey/lock/LockKindCoversPinLaw", "parts", "(I)I"⟩ : MethodName)) hown (mvT hZ (hw _ (List.mem_of_getElem? (i := 10) rfl))) (mvT hZ (hw _ (List.mem_of_getElem? (i := 11) rfl))) (mvT hZ (hw _ (List.mem_of_getElem? (i := 3) rfl))) (mvT hZ (hw _ (List.mem_of_getElem? (i := 12) rfl))) (by decide) (backOf (W := 0) (r2_10 l Z a0 hw [] h0 n0 Z0 w P) hZ (hw _ (List.mem_of_getElem? (i := 12) rfl)) (hw _ (List.mem_of_getElem? (i := 3) rfl)) (by decide) (by decide)) (g := (mkF m 37 #[.val (.int p1), .val (.int p2), .val (.int (1 : Int32)), .val (.int (3 : Int32)), .val (.ref (w 3)), .val (.ref (w 1)), .unset] [(.int (3 : Int32))])) rfl (by rw [hml]; rfl) (argsL := [(.int (3 : Int32))]) (rest := []) (lenOf pd1 rfl) rfl (by show 2 * 0 + _ ≤ _; exact Nat.le_of_eq rfl) (hb hby at_37) (fun _ _ => ⟨rfl, e58, (by decide : 0 + 0 ≤ _), (by decide : 0 + 0 ≤ _)⟩)
      dsimp only [Pt.U, Pt.locs, Pt.cells, Pt.slots] at X59 l59 y59 z59 st59 hQ59
      subst l59 y59 z59
      obtain ⟨rfl, Nq59, e59⟩ := hQ59
      have N59 := Fr.app N58 Nq59
      refine Goes.by st59 ?_
      refine Goes.by (fun _ kz => XS.iloadN X59.here hx rfl (hb hby at_40) rfl kz) ?_
      obtain ⟨_, _, ⟨T60, L60, k60, n60⟩, -, X60, ⟨Lc60, hQ60, l60, y60, z60⟩, st60⟩ := Jvm.LawKit.callS X59 hx (y := (⟨"com/example/nextkey/nextkey/lock/LockKindCoversPinLaw", "parts", "(I)I"⟩ : MethodName)) hown (mvT hZ (hw _ (List.mem_of_getElem? (i := 10) rfl))) (mvT hZ (hw _ (List.mem_of_getElem? (i := 11) rfl))) (mvT hZ (hw _ (List.mem_of_getElem? (i := 3) rfl))) (mvT hZ (hw _ (List.mem_of_getElem? (i := 12) rfl))) (by decide) (backOf (W := 1) (r2_4 l Z a0 hw [] h0 n0 Z0 w P) hZ (hw _ (List.mem_of_getElem? (i := 12) rfl)) (hw _ (List.mem_of_getElem? (i := 3) rfl)) (by decide) (by decide)) (g := (mkF m 41 #[.val (.int p1), .val (.int p2), .val (.int (1 : Int32)), .val (.int (3 : Int32)), .val (.ref (w 3)), .val (.ref (w 1)), .unset] [(.int (1 : Int32)), (.int (6 : Int32))])) rfl (by rw [hml]; rfl) (argsL := [(.int (1 : Int32))]) (rest := [(.int (6 : Int32))]) (lenOf pd1 rfl) rfl (by show 2 * 0 + _ ≤ _; exact Nat.le_of_eq rfl) (hb hby at_41) (fun _ _ => ⟨rfl, e59, (by decide : 0 + 0 ≤ _), (by decide : 0 + 0 ≤ _)⟩)
      dsimp only [Pt.U, Pt.locs, Pt.cells, Pt.slots] at X60 l60 y60 z60 st60 hQ60
      subst l60 y60 z60
      obtain ⟨rfl, Nq60, e60⟩ := hQ60
      have N60 := Fr.app N59 Nq60
      refine Goes.by st60 ?_
      refine Goes.by (fun _ kz => XS.iconst X60.here hx rfl (hb hby at_44) (XS.ixor X60.here hx rfl (hb hby at_45) rfl kz)) ?_
      show Goes p e below (T60.setTop (mkF m 46 #[.val (.int p1), .val (.int p2), .val (.int (1 : Int32)), .val (.int (3 : Int32)), .val (.ref (w 3)), .val (.ref (w 1)), .unset] [(.int ((2 : Int32) ^^^ (-1 : Int32))), (.int (6 : Int32))])) _
      rw [show (((2 : Int32) ^^^ (-1 : Int32)) : Int32) = (-3 : Int32) from by decide]
      show Goes p e below (T60.setTop (mkF m 46 #[.val (.int p1), .val (.int p2), .val (.int (1 : Int32)), .val (.int (3 : Int32)), .val (.ref (w 3)), .val (.ref (w 1)), .unset] [(.int (-3 : Int32)), (.int (6 : Int32))])) _
      refine Goes.by (fun _ kz => XS.iand X60.here hx rfl (hb hby at_46) rfl kz) ?_
      show Goes p e below (T60.setTop (mkF m 47 #[.val (.int p1), .val (.int p2), .val (.int (1 : Int32)), .val (.int (3 : Int32)), .val (.ref (w 3)), .val (.ref (w 1)), .unset] [(.int ((6 : Int32) &&& (-3 : Int32)))])) _
      rw [show (((6 : Int32) &&& (-3 : Int32)) : Int32) = (4 : Int32) from by decide]
      show Goes p e below (T60.setTop (mkF m 47 #[.val (.int p1), .val (.int p2), .val (.int (1 : Int32)), .val (.int (3 : Int32)), .val (.ref (w 3)), .val (.ref (w 1)), .unset] [(.int (4 : Int32))])) _
      refine Goes.by (fun _ kz => XS.ifYes X60.here hx rfl (pc0 := 47) (pc' := 54) rfl (hb hby at_47) rfl ((if0 _ _).trans (feq (by decide : ¬ ((4 : Int32) = (0 : Int32)))).2) (by decide) (by decide) (XS.iconst X60.here hx rfl (hb hby at_54) (XS.istore X60.here hx rfl (hb hby at_55) rfl (l' := #[.val (.int p1), .val (.int p2), .val (.int (1 : Int32)), .val (.int (3 : Int32)), .val (.ref (w 3)), .val (.ref (w 1)), .val (.int (0 : Int32))]) rfl kz))) ?_
      show Goes p e below (T60.setTop (mkF m 57 #[.val (.int p1), .val (.int p2), .val (.int (1 : Int32)), .val (.int (3 : Int32)), .val (.ref (w 3)), .val (.ref (w 1)), .val (.int (0 : Int32))] [])) _
      refine Goes.by (fun _ kz => XS.aload X60.here hx rfl (hb hby at_57) rfl rfl (XS.aload X60.here hx rfl (hb hby at_59) rfl rfl kz)) ?_
      obtain ⟨cq63, kq63, q63a, q63b, q63c⟩ := isOf hZ e60 P.2.2.2.2.2.2.2.1
      obtain ⟨_, _, ⟨T63, L63, k63, n63⟩, -, X63, ⟨Lc63, hQ63, l63, y63, z63⟩, st63⟩ := X60.virtualBack hx (y := (⟨"com/example/nextkey/nextkey/lock/LockKind", "covers", "(Lcom/example/nextkey/nextkey/lock/LockKind;)Z"⟩ : MethodName)) (z := (⟨"com/example/nextkey/nextkey/lock/LockKind", "covers", "(Lcom/example/nextkey/nextkey/lock/LockKind;)Z"⟩ : MethodName)) hown (mvT hZ (hw _ (List.mem_of_getElem? (i := 13) rfl))) (mvT hZ (hw _ (List.mem_of_getElem? (i := 14) rfl))) (notFace_of_selects (args := #[]) (mvT hZ (hw _ (List.mem_of_getElem? (i := 16) rfl)))) (mvT hZ (hw _ (List.mem_of_getElem? (i := 16) rfl))) (mvT hZ (hw _ (List.mem_of_getElem? (i := 15) rfl))) (by decide) (backOf (W := 0) (r3_17 l Z a0 hw [] h0 n0 Z0 w P) hZ (hw _ (List.mem_of_getElem? (i := 17) rfl)) (hw _ (List.mem_of_getElem? (i := 6) rfl)) (by decide) (by decide)) q63a q63c (g := (mkF m 61 #[.val (.int p1), .val (.int p2), .val (.int (1 : Int32)), .val (.int (3 : Int32)), .val (.ref (w 3)), .val (.ref (w 1)), .val (.int (0 : Int32))] [(.ref (w 1)), (.ref (w 3))])) rfl (by rw [hml]; rfl) (Steps.refl _) (argsL := [(.ref (w 1))]) (rest := []) (lenOf pd2 rfl) rfl (by show 2 * 0 + _ ≤ _; exact Nat.le_of_eq rfl) (hb hby at_61) (fun _ _ => ⟨rfl, e60, (by decide : 0 + 0 ≤ _), (by decide : 0 + 0 ≤ _)⟩)
      dsimp only [Pt.U, Pt.locs, Pt.cells, Pt.slots] at X63 l63 y63 z63 st63 hQ63
      subst l63 y63 z63
      obtain ⟨rfl, Nq63, e63⟩ := hQ63
      have N63 := Fr.app N60 Nq63
      refine Goes.tr st63 ?_
      refine Goes.by (fun _ kz => XS.iload X63.here hx rfl (hb hby at_64) rfl (XS.icmpNo X63.here hx rfl (hb hby at_66) rfl (teq (by decide : (0 : Int32) = (0 : Int32))).2 (XS.iconst X63.here hx rfl (hb hby at_69) kz))) ?_
      show Goes p e below (T63.setTop (mkF m 70 #[.val (.int p1), .val (.int p2), .val (.int (1 : Int32)), .val (.int (3 : Int32)), .val (.ref (w 3)), .val (.ref (w 1)), .val (.int (0 : Int32))] [(.int (1 : Int32))])) _
      refine Goes.by (fun _ kz => XS.goto X63.here hx rfl (pc0 := 70) (pc' := 74) rfl (hb hby at_70) (by decide) (by decide) kz) ?_
      show Goes p e below (T63.setTop (mkF m 74 #[.val (.int p1), .val (.int p2), .val (.int (1 : Int32)), .val (.int (3 : Int32)), .val (.ref (w 3)), .val (.ref (w 1)), .val (.int (0 : Int32))] [(.int (1 : Int32))])) _
      obtain ⟨fs, hr, hrun, hended, hW, hsame⟩ := X63.leave (v := some (.int (1 : Int32))) (fun h => by rw [Bd.returns] at h; cases h)
      exact ⟨_, _, retN X63 hx (t := .boolean) Bd.returns (by simp) (hb hby at_74) hr, hrun, hended, _, _, rfl, ⟨rfl, N63⟩, ⟨_, rfl⟩, hW, hsame.mono (by decide) (by decide)⟩
    · show Goes p e below (s₁.setTop (mkF m 14 #[.val (.int p1), .val (.int p2), .val (.int (1 : Int32)), .val (.int (4 : Int32)), .unset, .unset, .unset] [])) _
      refine Goes.by (fun _ kz => XS.iloadN X0.here hx rfl (hb hby at_14) rfl kz) ?_
      obtain ⟨_, _, ⟨T64, L64, k64, n64⟩, -, X64, ⟨Lc64, hQ64, l64, y64, z64⟩, st64⟩ := Jvm.LawKit.callS X0 hx (y := (⟨"com/example/nextkey/nextkey/lock/LockKindCoversPinLaw", "kind", "(I)Lcom/example/nextkey/nextkey/lock/LockKind;"⟩ : MethodName)) hown (mvT hZ (hw _ (List.mem_of_getElem? (i := 1) rfl))) (mvT hZ (hw _ (List.mem_of_getElem? (i := 2) rfl))) (mvT hZ (hw _ (List.mem_of_getElem? (i := 3) rfl))) (mvT hZ (hw _ (List.mem_of_getElem? (i := 4) rfl))) (by decide) (backOf (W := 0) (r1_3 l Z a0 hw [] h0 n0 Z0 w P) hZ (hw _ (List.mem_of_getElem? (i := 4) rfl)) (hw _ (List.mem_of_getElem? (i := 3) rfl)) (by decide) (by decide)) (g := (mkF m 15 #[.val (.int p1), .val (.int p2), .val (.int (1 : Int32)), .val (.int (4 : Int32)), .unset, .unset, .unset] [(.int (1 : Int32))])) rfl (by rw [hml]; rfl) (argsL := [(.int (1 : Int32))]) (rest := []) (lenOf pd0 rfl) rfl (by show 2 * 0 + _ ≤ _; exact Nat.le_of_eq rfl) (hb hby at_15) (fun _ _ => ⟨rfl, e0, (by decide : 0 + 0 ≤ _), (by decide : 0 + 0 ≤ _)⟩)
      dsimp only [Pt.U, Pt.locs, Pt.cells, Pt.slots] at X64 l64 y64 z64 st64 hQ64
      subst l64 y64 z64
      obtain ⟨rfl, Nq64, e64⟩ := hQ64
      have N64 := Fr.app N0 Nq64
      refine Goes.by st64 ?_
      refine Goes.by (fun _ kz => XS.astore X64.here hx rfl (hb hby at_18) rfl rfl (l' := #[.val (.int p1), .val (.int p2), .val (.int (1 : Int32)), .val (.int (4 : Int32)), .val (.ref (w 3)), .unset, .unset]) rfl (XS.iloadN X64.here hx rfl (hb hby at_20) rfl kz)) ?_
      obtain ⟨_, _, ⟨T65, L65, k65, n65⟩, -, X65, ⟨Lc65, hQ65, l65, y65, z65⟩, st65⟩ := Jvm.LawKit.callS X64 hx (y := (⟨"com/example/nextkey/nextkey/lock/LockKindCoversPinLaw", "kind", "(I)Lcom/example/nextkey/nextkey/lock/LockKind;"⟩ : MethodName)) hown (mvT hZ (hw _ (List.mem_of_getElem? (i := 1) rfl))) (mvT hZ (hw _ (List.mem_of_getElem? (i := 2) rfl))) (mvT hZ (hw _ (List.mem_of_getElem? (i := 3) rfl))) (mvT hZ (hw _ (List.mem_of_getElem? (i := 4) rfl))) (by decide) (backOf (W := 0) (r1_12 l Z a0 hw [] h0 n0 Z0 w P) hZ (hw _ (List.mem_of_getElem? (i := 4) rfl)) (hw _ (List.mem_of_getElem? (i := 3) rfl)) (by decide) (by decide)) (g := (mkF m 21 #[.val (.int p1), .val (.int p2), .val (.int (1 : Int32)), .val (.int (4 : Int32)), .val (.ref (w 3)), .unset, .unset] [(.int (4 : Int32))])) rfl (by rw [hml]; rfl) (argsL := [(.int (4 : Int32))]) (rest := []) (lenOf pd0 rfl) rfl (by show 2 * 0 + _ ≤ _; exact Nat.le_of_eq rfl) (hb hby at_21) (fun _ _ => ⟨rfl, e64, (by decide : 0 + 0 ≤ _), (by decide : 0 + 0 ≤ _)⟩)
      dsimp only [Pt.U, Pt.locs, Pt.cells, Pt.slots] at X65 l65 y65 z65 st65 hQ65
      subst l65 y65 z65
      obtain ⟨rfl, Nq65, e65⟩ := hQ65
      have N65 := Fr.app N64 Nq65
      refine Goes.by st65 ?_
      refine Goes.by (fun _ kz => XS.astore X65.here hx rfl (hb hby at_24) rfl rfl (l' := #[.val (.int p1), .val (.int p2), .val (.int (1 : Int32)), .val (.int (4 : Int32)), .val (.ref (w 3)), .val (.ref (w 2)), .unset]) rfl (XS.iloadN X65.here hx rfl (hb hby at_26) rfl (XS.iconst X65.here hx rfl (hb hby at_27) kz))) ?_
      show Goes p e below (T65.setTop (mkF m 28 #[.val (.int p1), .val (.int p2), .val (.int (1 : Int32)), .val (.int (4 : Int32)), .val (.ref (w 3)), .val (.ref (w 2)), .unset] [(.int (4 : Int32)), (.int (1 : Int32))])) _
      refine Goes.by (fun _ kz => XS.icmpNo X65.here hx rfl (hb hby at_28) rfl (feq (by decide : ¬ ((1 : Int32) = (4 : Int32)))).1 (XS.iloadN X65.here hx rfl (hb hby at_31) rfl (XS.iconst X65.here hx rfl (hb hby at_32) kz))) ?_
      show Goes p e below (T65.setTop (mkF m 33 #[.val (.int p1), .val (.int p2), .val (.int (1 : Int32)), .val (.int (4 : Int32)), .val (.ref (w 3)), .val (.ref (w 2)), .unset] [(.int (4 : Int32)), (.int (4 : Int32))])) _
      refine Goes.by (fun _ kz => XS.icmpYes X65.here hx rfl (pc0 := 33) (pc' := 54) rfl (hb hby at_33) rfl (teq (by decide : (4 : Int32) = (4 : Int32))).1 (by decide) (by decide) (XS.iconst X65.here hx rfl (hb hby at_54) (XS.istore X65.here hx rfl (hb hby at_55) rfl (l' := #[.val (.int p1), .val (.int p2), .val (.int (1 : Int32)), .val (.int (4 : Int32)), .val (.ref (w 3)), .val (.ref (w 2)), .val (.int (0 : Int32))]) rfl kz))) ?_
      show Goes p e below (T65.setTop (mkF m 57 #[.val (.int p1), .val (.int p2), .val (.int (1 : Int32)), .val (.int (4 : Int32)), .val (.ref (w 3)), .val (.ref (w 2)), .val (.int (0 : Int32))] [])) _
      refine Goes.by (fun _ kz => XS.aload X65.here hx rfl (hb hby at_57) rfl rfl (XS.aload X65.here hx rfl (hb hby at_59) rfl rfl kz)) ?_
      obtain ⟨cq67, kq67, q67a, q67b, q67c⟩ := isOf hZ e65 P.2.2.2.2.2.2.2.1
      obtain ⟨_, _, ⟨T67, L67, k67, n67⟩, -, X67, ⟨Lc67, hQ67, l67, y67, z67⟩, st67⟩ := X65.virtualBack hx (y := (⟨"com/example/nextkey/nextkey/lock/LockKind", "covers", "(Lcom/example/nextkey/nextkey/lock/LockKind;)Z"⟩ : MethodName)) (z := (⟨"com/example/nextkey/nextkey/lock/LockKind", "covers", "(Lcom/example/nextkey/nextkey/lock/LockKind;)Z"⟩ : MethodName)) hown (mvT hZ (hw _ (List.mem_of_getElem? (i := 13) rfl))) (mvT hZ (hw _ (List.mem_of_getElem? (i := 14) rfl))) (notFace_of_selects (args := #[]) (mvT hZ (hw _ (List.mem_of_getElem? (i := 16) rfl)))) (mvT hZ (hw _ (List.mem_of_getElem? (i := 16) rfl))) (mvT hZ (hw _ (List.mem_of_getElem? (i := 15) rfl))) (by decide) (backOf (W := 0) (r3_18 l Z a0 hw [] h0 n0 Z0 w P) hZ (hw _ (List.mem_of_getElem? (i := 17) rfl)) (hw _ (List.mem_of_getElem? (i := 6) rfl)) (by decide) (by decide)) q67a q67c (g := (mkF m 61 #[.val (.int p1), .val (.int p2), .val (.int (1 : Int32)), .val (.int (4 : Int32)), .val (.ref (w 3)), .val (.ref (w 2)), .val (.int (0 : Int32))] [(.ref (w 2)), (.ref (w 3))])) rfl (by rw [hml]; rfl) (Steps.refl _) (argsL := [(.ref (w 2))]) (rest := []) (lenOf pd2 rfl) rfl (by show 2 * 0 + _ ≤ _; exact Nat.le_of_eq rfl) (hb hby at_61) (fun _ _ => ⟨rfl, e65, (by decide : 0 + 0 ≤ _), (by decide : 0 + 0 ≤ _)⟩)
      dsimp only [Pt.U, Pt.locs, Pt.cells, Pt.slots] at X67 l67 y67 z67 st67 hQ67
      subst l67 y67 z67
      obtain ⟨rfl, Nq67, e67⟩ := hQ67
      have N67 := Fr.app N65 Nq67
      refine Goes.tr st67 ?_
      refine Goes.by (fun _ kz => XS.iload X67.here hx rfl (hb hby at_64) rfl (XS.icmpNo X67.here hx rfl (hb hby at_66) rfl (teq (by decide : (0 : Int32) = (0 : Int32))).2 (XS.iconst X67.here hx rfl (hb hby at_69) kz))) ?_
      show Goes p e below (T67.setTop (mkF m 70 #[.val (.int p1), .val (.int p2), .val (.int (1 : Int32)), .val (.int (4 : Int32)), .val (.ref (w 3)), .val (.ref (w 2)), .val (.int (0 : Int32))] [(.int (1 : Int32))])) _
      refine Goes.by (fun _ kz => XS.goto X67.here hx rfl (pc0 := 70) (pc' := 74) rfl (hb hby at_70) (by decide) (by decide) kz) ?_
      show Goes p e below (T67.setTop (mkF m 74 #[.val (.int p1), .val (.int p2), .val (.int (1 : Int32)), .val (.int (4 : Int32)), .val (.ref (w 3)), .val (.ref (w 2)), .val (.int (0 : Int32))] [(.int (1 : Int32))])) _
      obtain ⟨fs, hr, hrun, hended, hW, hsame⟩ := X67.leave (v := some (.int (1 : Int32))) (fun h => by rw [Bd.returns] at h; cases h)
      exact ⟨_, _, retN X67 hx (t := .boolean) Bd.returns (by simp) (hb hby at_74) hr, hrun, hended, _, _, rfl, ⟨rfl, N67⟩, ⟨_, rfl⟩, hW, hsame.mono (by decide) (by decide)⟩
  · show Goes p e below (s₁.setTop (mkF m 7 #[.val (.int p1), .val (.int p2), .val (.int (2 : Int32)), .unset, .unset, .unset, .unset] [])) _
    refine Goes.by (fun _ kz => XS.iloadN X0.here hx rfl (hb hby at_7) rfl (X0.ldcInt hx hown (mvT hZ (hw _ (List.mem_of_getElem? (i := 0) rfl))) (g := (mkF m 8 #[.val (.int p1), .val (.int p2), .val (.int (2 : Int32)), .unset, .unset, .unset, .unset] [(.int p2)])) rfl (hb hby at_8) _ (XS.iand X0.here hx rfl (hb hby at_10) rfl kz))) ?_
    show Goes p e below (s₁.setTop (mkF m 11 #[.val (.int p1), .val (.int p2), .val (.int (2 : Int32)), .unset, .unset, .unset, .unset] [(.int (p2 &&& (2147483647 : Int32)))])) _
    refine Goes.by (fun _ kz => XS.iconst X0.here hx rfl (hb hby at_11) (iremM X0 hx rfl (hb hby at_12) rfl (by decide) (XS.istoreN X0.here hx rfl (hb hby at_13) rfl (l' := #[.val (.int p1), .val (.int p2), .val (.int (2 : Int32)), .val (.int ((p2 &&& (2147483647 : Int32)) % (5 : Int32))), .unset, .unset, .unset]) rfl kz))) ?_
    show Goes p e below (s₁.setTop (mkF m 14 #[.val (.int p1), .val (.int p2), .val (.int (2 : Int32)), .val (.int ((p2 &&& (2147483647 : Int32)) % (5 : Int32))), .unset, .unset, .unset] [])) _
    have hsj := own_split p2
    obtain ⟨j, hj⟩ : ∃ z, z = ((p2 &&& (2147483647 : Int32)) % (5 : Int32)) := ⟨_, rfl⟩
    rw [← hj] at hsj ⊢
    rcases hsj with rfl | rfl | rfl | rfl | rfl
    · show Goes p e below (s₁.setTop (mkF m 14 #[.val (.int p1), .val (.int p2), .val (.int (2 : Int32)), .val (.int (0 : Int32)), .unset, .unset, .unset] [])) _
      refine Goes.by (fun _ kz => XS.iloadN X0.here hx rfl (hb hby at_14) rfl kz) ?_
      obtain ⟨_, _, ⟨T68, L68, k68, n68⟩, -, X68, ⟨Lc68, hQ68, l68, y68, z68⟩, st68⟩ := Jvm.LawKit.callS X0 hx (y := (⟨"com/example/nextkey/nextkey/lock/LockKindCoversPinLaw", "kind", "(I)Lcom/example/nextkey/nextkey/lock/LockKind;"⟩ : MethodName)) hown (mvT hZ (hw _ (List.mem_of_getElem? (i := 1) rfl))) (mvT hZ (hw _ (List.mem_of_getElem? (i := 2) rfl))) (mvT hZ (hw _ (List.mem_of_getElem? (i := 3) rfl))) (mvT hZ (hw _ (List.mem_of_getElem? (i := 4) rfl))) (by decide) (backOf (W := 0) (r1_6 l Z a0 hw [] h0 n0 Z0 w P) hZ (hw _ (List.mem_of_getElem? (i := 4) rfl)) (hw _ (List.mem_of_getElem? (i := 3) rfl)) (by decide) (by decide)) (g := (mkF m 15 #[.val (.int p1), .val (.int p2), .val (.int (2 : Int32)), .val (.int (0 : Int32)), .unset, .unset, .unset] [(.int (2 : Int32))])) rfl (by rw [hml]; rfl) (argsL := [(.int (2 : Int32))]) (rest := []) (lenOf pd0 rfl) rfl (by show 2 * 0 + _ ≤ _; exact Nat.le_of_eq rfl) (hb hby at_15) (fun _ _ => ⟨rfl, e0, (by decide : 0 + 0 ≤ _), (by decide : 0 + 0 ≤ _)⟩)
      dsimp only [Pt.U, Pt.locs, Pt.cells, Pt.slots] at X68 l68 y68 z68 st68 hQ68
      subst l68 y68 z68
      obtain ⟨rfl, Nq68, e68⟩ := hQ68
      have N68 := Fr.app N0 Nq68
      refine Goes.by st68 ?_
      refine Goes.by (fun _ kz => XS.astore X68.here hx rfl (hb hby at_18) rfl rfl (l' := #[.val (.int p1), .val (.int p2), .val (.int (2 : Int32)), .val (.int (0 : Int32)), .val (.ref (w 4)), .unset, .unset]) rfl (XS.iloadN X68.here hx rfl (hb hby at_20) rfl kz)) ?_
      obtain ⟨_, _, ⟨T69, L69, k69, n69⟩, -, X69, ⟨Lc69, hQ69, l69, y69, z69⟩, st69⟩ := Jvm.LawKit.callS X68 hx (y := (⟨"com/example/nextkey/nextkey/lock/LockKindCoversPinLaw", "kind", "(I)Lcom/example/nextkey/nextkey/lock/LockKind;"⟩ : MethodName)) hown (mvT hZ (hw _ (List.mem_of_getElem? (i := 1) rfl))) (mvT hZ (hw _ (List.mem_of_getElem? (i := 2) rfl))) (mvT hZ (hw _ (List.mem_of_getElem? (i := 3) rfl))) (mvT hZ (hw _ (List.mem_of_getElem? (i := 4) rfl))) (by decide) (backOf (W := 0) (r1_0 l Z a0 hw [] h0 n0 Z0 w P) hZ (hw _ (List.mem_of_getElem? (i := 4) rfl)) (hw _ (List.mem_of_getElem? (i := 3) rfl)) (by decide) (by decide)) (g := (mkF m 21 #[.val (.int p1), .val (.int p2), .val (.int (2 : Int32)), .val (.int (0 : Int32)), .val (.ref (w 4)), .unset, .unset] [(.int (0 : Int32))])) rfl (by rw [hml]; rfl) (argsL := [(.int (0 : Int32))]) (rest := []) (lenOf pd0 rfl) rfl (by show 2 * 0 + _ ≤ _; exact Nat.le_of_eq rfl) (hb hby at_21) (fun _ _ => ⟨rfl, e68, (by decide : 0 + 0 ≤ _), (by decide : 0 + 0 ≤ _)⟩)
      dsimp only [Pt.U, Pt.locs, Pt.cells, Pt.slots] at X69 l69 y69 z69 st69 hQ69
      subst l69 y69 z69
      obtain ⟨rfl, Nq69, e69⟩ := hQ69
      have N69 := Fr.app N68 Nq69
      refine Goes.by st69 ?_
      refine Goes.by (fun _ kz => XS.astore X69.here hx rfl (hb hby at_24) rfl rfl (l' := #[.val (.int p1), .val (.int p2), .val (.int (2 : Int32)), .val (.int (0 : Int32)), .val (.ref (w 4)), .val (.ref (w 0)), .unset]) rfl (XS.iloadN X69.here hx rfl (hb hby at_26) rfl (XS.iconst X69.here hx rfl (hb hby at_27) kz))) ?_
      show Goes p e below (T69.setTop (mkF m 28 #[.val (.int p1), .val (.int p2), .val (.int (2 : Int32)), .val (.int (0 : Int32)), .val (.ref (w 4)), .val (.ref (w 0)), .unset] [(.int (4 : Int32)), (.int (2 : Int32))])) _
      refine Goes.by (fun _ kz => XS.icmpNo X69.here hx rfl (hb hby at_28) rfl (feq (by decide : ¬ ((2 : Int32) = (4 : Int32)))).1 (XS.iloadN X69.here hx rfl (hb hby at_31) rfl (XS.iconst X69.here hx rfl (hb hby at_32) kz))) ?_
      show Goes p e below (T69.setTop (mkF m 33 #[.val (.int p1), .val (.int p2), .val (.int (2 : Int32)), .val (.int (0 : Int32)), .val (.ref (w 4)), .val (.ref (w 0)), .unset] [(.int (4 : Int32)), (.int (0 : Int32))])) _
      refine Goes.by (fun _ kz => XS.icmpNo X69.here hx rfl (hb hby at_33) rfl (feq (by decide : ¬ ((0 : Int32) = (4 : Int32)))).1 (XS.iloadN X69.here hx rfl (hb hby at_36) rfl kz)) ?_
      obtain ⟨_, _, ⟨T70, L70, k70, n70⟩, -, X70, ⟨Lc70, hQ70, l70, y70, z70⟩, st70⟩ := Jvm.LawKit.callS X69 hx (y := (⟨"com/example/nextkey/nextkey/lock/LockKindCoversPinLaw", "parts", "(I)I"⟩ : MethodName)) hown (mvT hZ (hw _ (List.mem_of_getElem? (i := 10) rfl))) (mvT hZ (hw _ (List.mem_of_getElem? (i := 11) rfl))) (mvT hZ (hw _ (List.mem_of_getElem? (i := 3) rfl))) (mvT hZ (hw _ (List.mem_of_getElem? (i := 12) rfl))) (by decide) (backOf (W := 0) (r2_1 l Z a0 hw [] h0 n0 Z0 w P) hZ (hw _ (List.mem_of_getElem? (i := 12) rfl)) (hw _ (List.mem_of_getElem? (i := 3) rfl)) (by decide) (by decide)) (g := (mkF m 37 #[.val (.int p1), .val (.int p2), .val (.int (2 : Int32)), .val (.int (0 : Int32)), .val (.ref (w 4)), .val (.ref (w 0)), .unset] [(.int (0 : Int32))])) rfl (by rw [hml]; rfl) (argsL := [(.int (0 : Int32))]) (rest := []) (lenOf pd1 rfl) rfl (by show 2 * 0 + _ ≤ _; exact Nat.le_of_eq rfl) (hb hby at_37) (fun _ _ => ⟨rfl, e69, (by decide : 0 + 0 ≤ _), (by decide : 0 + 0 ≤ _)⟩)
      dsimp only [Pt.U, Pt.locs, Pt.cells, Pt.slots] at X70 l70 y70 z70 st70 hQ70
      subst l70 y70 z70
      obtain ⟨rfl, Nq70, e70⟩ := hQ70
      have N70 := Fr.app N69 Nq70
      refine Goes.by st70 ?_
      refine Goes.by (fun _ kz => XS.iloadN X70.here hx rfl (hb hby at_40) rfl kz) ?_
      obtain ⟨_, _, ⟨T71, L71, k71, n71⟩, -, X71, ⟨Lc71, hQ71, l71, y71, z71⟩, st71⟩ := Jvm.LawKit.callS X70 hx (y := (⟨"com/example/nextkey/nextkey/lock/LockKindCoversPinLaw", "parts", "(I)I"⟩ : MethodName)) hown (mvT hZ (hw _ (List.mem_of_getElem? (i := 10) rfl))) (mvT hZ (hw _ (List.mem_of_getElem? (i := 11) rfl))) (mvT hZ (hw _ (List.mem_of_getElem? (i := 3) rfl))) (mvT hZ (hw _ (List.mem_of_getElem? (i := 12) rfl))) (by decide) (backOf (W := 1) (r2_7 l Z a0 hw [] h0 n0 Z0 w P) hZ (hw _ (List.mem_of_getElem? (i := 12) rfl)) (hw _ (List.mem_of_getElem? (i := 3) rfl)) (by decide) (by decide)) (g := (mkF m 41 #[.val (.int p1), .val (.int p2), .val (.int (2 : Int32)), .val (.int (0 : Int32)), .val (.ref (w 4)), .val (.ref (w 0)), .unset] [(.int (2 : Int32)), (.int (1 : Int32))])) rfl (by rw [hml]; rfl) (argsL := [(.int (2 : Int32))]) (rest := [(.int (1 : Int32))]) (lenOf pd1 rfl) rfl (by show 2 * 0 + _ ≤ _; exact Nat.le_of_eq rfl) (hb hby at_41) (fun _ _ => ⟨rfl, e70, (by decide : 0 + 0 ≤ _), (by decide : 0 + 0 ≤ _)⟩)
      dsimp only [Pt.U, Pt.locs, Pt.cells, Pt.slots] at X71 l71 y71 z71 st71 hQ71
      subst l71 y71 z71
      obtain ⟨rfl, Nq71, e71⟩ := hQ71
      have N71 := Fr.app N70 Nq71
      refine Goes.by st71 ?_
      refine Goes.by (fun _ kz => XS.iconst X71.here hx rfl (hb hby at_44) (XS.ixor X71.here hx rfl (hb hby at_45) rfl kz)) ?_
      show Goes p e below (T71.setTop (mkF m 46 #[.val (.int p1), .val (.int p2), .val (.int (2 : Int32)), .val (.int (0 : Int32)), .val (.ref (w 4)), .val (.ref (w 0)), .unset] [(.int ((4 : Int32) ^^^ (-1 : Int32))), (.int (1 : Int32))])) _
      rw [show (((4 : Int32) ^^^ (-1 : Int32)) : Int32) = (-5 : Int32) from by decide]
      show Goes p e below (T71.setTop (mkF m 46 #[.val (.int p1), .val (.int p2), .val (.int (2 : Int32)), .val (.int (0 : Int32)), .val (.ref (w 4)), .val (.ref (w 0)), .unset] [(.int (-5 : Int32)), (.int (1 : Int32))])) _
      refine Goes.by (fun _ kz => XS.iand X71.here hx rfl (hb hby at_46) rfl kz) ?_
      show Goes p e below (T71.setTop (mkF m 47 #[.val (.int p1), .val (.int p2), .val (.int (2 : Int32)), .val (.int (0 : Int32)), .val (.ref (w 4)), .val (.ref (w 0)), .unset] [(.int ((1 : Int32) &&& (-5 : Int32)))])) _
      rw [show (((1 : Int32) &&& (-5 : Int32)) : Int32) = (1 : Int32) from by decide]
      show Goes p e below (T71.setTop (mkF m 47 #[.val (.int p1), .val (.int p2), .val (.int (2 : Int32)), .val (.int (0 : Int32)), .val (.ref (w 4)), .val (.ref (w 0)), .unset] [(.int (1 : Int32))])) _
      refine Goes.by (fun _ kz => XS.ifYes X71.here hx rfl (pc0 := 47) (pc' := 54) rfl (hb hby at_47) rfl ((if0 _ _).trans (feq (by decide : ¬ ((1 : Int32) = (0 : Int32)))).2) (by decide) (by decide) (XS.iconst X71.here hx rfl (hb hby at_54) (XS.istore X71.here hx rfl (hb hby at_55) rfl (l' := #[.val (.int p1), .val (.int p2), .val (.int (2 : Int32)), .val (.int (0 : Int32)), .val (.ref (w 4)), .val (.ref (w 0)), .val (.int (0 : Int32))]) rfl kz))) ?_
      show Goes p e below (T71.setTop (mkF m 57 #[.val (.int p1), .val (.int p2), .val (.int (2 : Int32)), .val (.int (0 : Int32)), .val (.ref (w 4)), .val (.ref (w 0)), .val (.int (0 : Int32))] [])) _
      refine Goes.by (fun _ kz => XS.aload X71.here hx rfl (hb hby at_57) rfl rfl (XS.aload X71.here hx rfl (hb hby at_59) rfl rfl kz)) ?_
      obtain ⟨cq74, kq74, q74a, q74b, q74c⟩ := isOf hZ e71 P.2.2.2.2.2.2.2.2.2.1
      obtain ⟨_, _, ⟨T74, L74, k74, n74⟩, -, X74, ⟨Lc74, hQ74, l74, y74, z74⟩, st74⟩ := X71.virtualBack hx (y := (⟨"com/example/nextkey/nextkey/lock/LockKind", "covers", "(Lcom/example/nextkey/nextkey/lock/LockKind;)Z"⟩ : MethodName)) (z := (⟨"com/example/nextkey/nextkey/lock/LockKind", "covers", "(Lcom/example/nextkey/nextkey/lock/LockKind;)Z"⟩ : MethodName)) hown (mvT hZ (hw _ (List.mem_of_getElem? (i := 13) rfl))) (mvT hZ (hw _ (List.mem_of_getElem? (i := 14) rfl))) (notFace_of_selects (args := #[]) (mvT hZ (hw _ (List.mem_of_getElem? (i := 16) rfl)))) (mvT hZ (hw _ (List.mem_of_getElem? (i := 16) rfl))) (mvT hZ (hw _ (List.mem_of_getElem? (i := 15) rfl))) (by decide) (backOf (W := 0) (r3_19 l Z a0 hw [] h0 n0 Z0 w P) hZ (hw _ (List.mem_of_getElem? (i := 17) rfl)) (hw _ (List.mem_of_getElem? (i := 6) rfl)) (by decide) (by decide)) q74a q74c (g := (mkF m 61 #[.val (.int p1), .val (.int p2), .val (.int (2 : Int32)), .val (.int (0 : Int32)), .val (.ref (w 4)), .val (.ref (w 0)), .val (.int (0 : Int32))] [(.ref (w 0)), (.ref (w 4))])) rfl (by rw [hml]; rfl) (Steps.refl _) (argsL := [(.ref (w 0))]) (rest := []) (lenOf pd2 rfl) rfl (by show 2 * 0 + _ ≤ _; exact Nat.le_of_eq rfl) (hb hby at_61) (fun _ _ => ⟨rfl, e71, (by decide : 0 + 0 ≤ _), (by decide : 0 + 0 ≤ _)⟩)
      dsimp only [Pt.U, Pt.locs, Pt.cells, Pt.slots] at X74 l74 y74 z74 st74 hQ74
      subst l74 y74 z74
      obtain ⟨rfl, Nq74, e74⟩ := hQ74
      have N74 := Fr.app N71 Nq74
      refine Goes.tr st74 ?_
      refine Goes.by (fun _ kz => XS.iload X74.here hx rfl (hb hby at_64) rfl (XS.icmpNo X74.here hx rfl (hb hby at_66) rfl (teq (by decide : (0 : Int32) = (0 : Int32))).2 (XS.iconst X74.here hx rfl (hb hby at_69) kz))) ?_
      show Goes p e below (T74.setTop (mkF m 70 #[.val (.int p1), .val (.int p2), .val (.int (2 : Int32)), .val (.int (0 : Int32)), .val (.ref (w 4)), .val (.ref (w 0)), .val (.int (0 : Int32))] [(.int (1 : Int32))])) _
      refine Goes.by (fun _ kz => XS.goto X74.here hx rfl (pc0 := 70) (pc' := 74) rfl (hb hby at_70) (by decide) (by decide) kz) ?_
      show Goes p e below (T74.setTop (mkF m 74 #[.val (.int p1), .val (.int p2), .val (.int (2 : Int32)), .val (.int (0 : Int32)), .val (.ref (w 4)), .val (.ref (w 0)), .val (.int (0 : Int32))] [(.int (1 : Int32))])) _
      obtain ⟨fs, hr, hrun, hended, hW, hsame⟩ := X74.leave (v := some (.int (1 : Int32))) (fun h => by rw [Bd.returns] at h; cases h)
      exact ⟨_, _, retN X74 hx (t := .boolean) Bd.returns (by simp) (hb hby at_74) hr, hrun, hended, _, _, rfl, ⟨rfl, N74⟩, ⟨_, rfl⟩, hW, hsame.mono (by decide) (by decide)⟩
    · show Goes p e below (s₁.setTop (mkF m 14 #[.val (.int p1), .val (.int p2), .val (.int (2 : Int32)), .val (.int (1 : Int32)), .unset, .unset, .unset] [])) _
      refine Goes.by (fun _ kz => XS.iloadN X0.here hx rfl (hb hby at_14) rfl kz) ?_
      obtain ⟨_, _, ⟨T75, L75, k75, n75⟩, -, X75, ⟨Lc75, hQ75, l75, y75, z75⟩, st75⟩ := Jvm.LawKit.callS X0 hx (y := (⟨"com/example/nextkey/nextkey/lock/LockKindCoversPinLaw", "kind", "(I)Lcom/example/nextkey/nextkey/lock/LockKind;"⟩ : MethodName)) hown (mvT hZ (hw _ (List.mem_of_getElem? (i := 1) rfl))) (mvT hZ (hw _ (List.mem_of_getElem? (i := 2) rfl))) (mvT hZ (hw _ (List.mem_of_getElem? (i := 3) rfl))) (mvT hZ (hw _ (List.mem_of_getElem? (i := 4) rfl))) (by decide) (backOf (W := 0) (r1_6 l Z a0 hw [] h0 n0 Z0 w P) hZ (hw _ (List.mem_of_getElem? (i := 4) rfl)) (hw _ (List.mem_of_getElem? (i := 3) rfl)) (by decide) (by decide)) (g := (mkF m 15 #[.val (.int p1), .val (.int p2), .val (.int (2 : Int32)), .val (.int (1 : Int32)), .unset, .unset, .unset] [(.int (2 : Int32))])) rfl (by rw [hml]; rfl) (argsL := [(.int (2 : Int32))]) (rest := []) (lenOf pd0 rfl) rfl (by show 2 * 0 + _ ≤ _; exact Nat.le_of_eq rfl) (hb hby at_15) (fun _ _ => ⟨rfl, e0, (by decide : 0 + 0 ≤ _), (by decide : 0 + 0 ≤ _)⟩)
      dsimp only [Pt.U, Pt.locs, Pt.cells, Pt.slots] at X75 l75 y75 z75 st75 hQ75
      subst l75 y75 z75
      obtain ⟨rfl, Nq75, e75⟩ := hQ75
      have N75 := Fr.app N0 Nq75
      refine Goes.by st75 ?_
      refine Goes.by (fun _ kz => XS.astore X75.here hx rfl (hb hby at_18) rfl rfl (l' := #[.val (.int p1), .val (.int p2), .val (.int (2 : Int32)), .val (.int (1 : Int32)), .val (.ref (w 4)), .unset, .unset]) rfl (XS.iloadN X75.here hx rfl (hb hby at_20) rfl kz)) ?_
      obtain ⟨_, _, ⟨T76, L76, k76, n76⟩, -, X76, ⟨Lc76, hQ76, l76, y76, z76⟩, st76⟩ := Jvm.LawKit.callS X75 hx (y := (⟨"com/example/nextkey/nextkey/lock/LockKindCoversPinLaw", "kind", "(I)Lcom/example/nextkey/nextkey/lock/LockKind;"⟩ : MethodName)) hown (mvT hZ (hw _ (List.mem_of_getElem? (i := 1) rfl))) (mvT hZ (hw _ (List.mem_of_getElem? (i := 2) rfl))) (mvT hZ (hw _ (List.mem_of_getElem? (i := 3) rfl))) (mvT hZ (hw _ (List.mem_of_getElem? (i := 4) rfl))) (by decide) (backOf (W := 0) (r1_3 l Z a0 hw [] h0 n0 Z0 w P) hZ (hw _ (List.mem_of_getElem? (i := 4) rfl)) (hw _ (List.mem_of_getElem? (i := 3) rfl)) (by decide) (by decide)) (g := (mkF m 21 #[.val (.int p1), .val (.int p2), .val (.int (2 : Int32)), .val (.int (1 : Int32)), .val (.ref (w 4)), .unset, .unset] [(.int (1 : Int32))])) rfl (by rw [hml]; rfl) (argsL := [(.int (1 : Int32))]) (rest := []) (lenOf pd0 rfl) rfl (by show 2 * 0 + _ ≤ _; exact Nat.le_of_eq rfl) (hb hby at_21) (fun _ _ => ⟨rfl, e75, (by decide : 0 + 0 ≤ _), (by decide : 0 + 0 ≤ _)⟩)
      dsimp only [Pt.U, Pt.locs, Pt.cells, Pt.slots] at X76 l76 y76 z76 st76 hQ76
      subst l76 y76 z76
      obtain ⟨rfl, Nq76, e76⟩ := hQ76
      have N76 := Fr.app N75 Nq76
      refine Goes.by st76 ?_
      refine Goes.by (fun _ kz => XS.astore X76.here hx rfl (hb hby at_24) rfl rfl (l' := #[.val (.int p1), .val (.int p2), .val (.int (2 : Int32)), .val (.int (1 : Int32)), .val (.ref (w 4)), .val (.ref (w 3)), .unset]) rfl (XS.iloadN X76.here hx rfl (hb hby at_26) rfl (XS.iconst X76.here hx rfl (hb hby at_27) kz))) ?_
      show Goes p e below (T76.setTop (mkF m 28 #[.val (.int p1), .val (.int p2), .val (.int (2 : Int32)), .val (.int (1 : Int32)), .val (.ref (w 4)), .val (.ref (w 3)), .unset] [(.int (4 : Int32)), (.int (2 : Int32))])) _
      refine Goes.by (fun _ kz => XS.icmpNo X76.here hx rfl (hb hby at_28) rfl (feq (by decide : ¬ ((2 : Int32) = (4 : Int32)))).1 (XS.iloadN X76.here hx rfl (hb hby at_31) rfl (XS.iconst X76.here hx rfl (hb hby at_32) kz))) ?_
      show Goes p e below (T76.setTop (mkF m 33 #[.val (.int p1), .val (.int p2), .val (.int (2 : Int32)), .val (.int (1 : Int32)), .val (.ref (w 4)), .val (.ref (w 3)), .unset] [(.int (4 : Int32)), (.int (1 : Int32))])) _
      refine Goes.by (fun _ kz => XS.icmpNo X76.here hx rfl (hb hby at_33) rfl (feq (by decide : ¬ ((1 : Int32) = (4 : Int32)))).1 (XS.iloadN X76.here hx rfl (hb hby at_36) rfl kz)) ?_
      obtain ⟨_, _, ⟨T77, L77, k77, n77⟩, -, X77, ⟨Lc77, hQ77, l77, y77, z77⟩, st77⟩ := Jvm.LawKit.callS X76 hx (y := (⟨"com/example/nextkey/nextkey/lock/LockKindCoversPinLaw", "parts", "(I)I"⟩ : MethodName)) hown (mvT hZ (hw _ (List.mem_of_getElem? (i := 10) rfl))) (mvT hZ (hw _ (List.mem_of_getElem? (i := 11) rfl))) (mvT hZ (hw _ (List.mem_of_getElem? (i := 3) rfl))) (mvT hZ (hw _ (List.mem_of_getElem? (i := 12) rfl))) (by decide) (backOf (W := 0) (r2_4 l Z a0 hw [] h0 n0 Z0 w P) hZ (hw _ (List.mem_of_getElem? (i := 12) rfl)) (hw _ (List.mem_of_getElem? (i := 3) rfl)) (by decide) (by decide)) (g := (mkF m 37 #[.val (.int p1), .val (.int p2), .val (.int (2 : Int32)), .val (.int (1 : Int32)), .val (.ref (w 4)), .val (.ref (w 3)), .unset] [(.int (1 : Int32))])) rfl (by rw [hml]; rfl) (argsL := [(.int (1 : Int32))]) (rest := []) (lenOf pd1 rfl) rfl (by show 2 * 0 + _ ≤ _; exact Nat.le_of_eq rfl) (hb hby at_37) (fun _ _ => ⟨rfl, e76, (by decide : 0 + 0 ≤ _), (by decide : 0 + 0 ≤ _)⟩)
      dsimp only [Pt.U, Pt.locs, Pt.cells, Pt.slots] at X77 l77 y77 z77 st77 hQ77
      subst l77 y77 z77
      obtain ⟨rfl, Nq77, e77⟩ := hQ77
      have N77 := Fr.app N76 Nq77
      refine Goes.by st77 ?_
      refine Goes.by (fun _ kz => XS.iloadN X77.here hx rfl (hb hby at_40) rfl kz) ?_
      obtain ⟨_, _, ⟨T78, L78, k78, n78⟩, -, X78, ⟨Lc78, hQ78, l78, y78, z78⟩, st78⟩ := Jvm.LawKit.callS X77 hx (y := (⟨"com/example/nextkey/nextkey/lock/LockKindCoversPinLaw", "parts", "(I)I"⟩ : MethodName)) hown (mvT hZ (hw _ (List.mem_of_getElem? (i := 10) rfl))) (mvT hZ (hw _ (List.mem_of_getElem? (i := 11) rfl))) (mvT hZ (hw _ (List.mem_of_getElem? (i := 3) rfl))) (mvT hZ (hw _ (List.mem_of_getElem? (i := 12) rfl))) (by decide) (backOf (W := 1) (r2_7 l Z a0 hw [] h0 n0 Z0 w P) hZ (hw _ (List.mem_of_getElem? (i := 12) rfl)) (hw _ (List.mem_of_getElem? (i := 3) rfl)) (by decide) (by decide)) (g := (mkF m 41 #[.val (.int p1), .val (.int p2), .val (.int (2 : Int32)), .val (.int (1 : Int32)), .val (.ref (w 4)), .val (.ref (w 3)), .unset] [(.int (2 : Int32)), (.int (2 : Int32))])) rfl (by rw [hml]; rfl) (argsL := [(.int (2 : Int32))]) (rest := [(.int (2 : Int32))]) (lenOf pd1 rfl) rfl (by show 2 * 0 + _ ≤ _; exact Nat.le_of_eq rfl) (hb hby at_41) (fun _ _ => ⟨rfl, e77, (by decide : 0 + 0 ≤ _), (by decide : 0 + 0 ≤ _)⟩)
      dsimp only [Pt.U, Pt.locs, Pt.cells, Pt.slots] at X78 l78 y78 z78 st78 hQ78
      subst l78 y78 z78
      obtain ⟨rfl, Nq78, e78⟩ := hQ78
      have N78 := Fr.app N77 Nq78
      refine Goes.by st78 ?_
      refine Goes.by (fun _ kz => XS.iconst X78.here hx rfl (hb hby at_44) (XS.ixor X78.here hx rfl (hb hby at_45) rfl kz)) ?_
      show Goes p e below (T78.setTop (mkF m 46 #[.val (.int p1), .val (.int p2), .val (.int (2 : Int32)), .val (.int (1 : Int32)), .val (.ref (w 4)), .val (.ref (w 3)), .unset] [(.int ((4 : Int32) ^^^ (-1 : Int32))), (.int (2 : Int32))])) _
      rw [show (((4 : Int32) ^^^ (-1 : Int32)) : Int32) = (-5 : Int32) from by decide]
      show Goes p e below (T78.setTop (mkF m 46 #[.val (.int p1), .val (.int p2), .val (.int (2 : Int32)), .val (.int (1 : Int32)), .val (.ref (w 4)), .val (.ref (w 3)), .unset] [(.int (-5 : Int32)), (.int (2 : Int32))])) _
      refine Goes.by (fun _ kz => XS.iand X78.here hx rfl (hb hby at_46) rfl kz) ?_
      show Goes p e below (T78.setTop (mkF m 47 #[.val (.int p1), .val (.int p2), .val (.int (2 : Int32)), .val (.int (1 : Int32)), .val (.ref (w 4)), .val (.ref (w 3)), .unset] [(.int ((2 : Int32) &&& (-5 : Int32)))])) _
      rw [show (((2 : Int32) &&& (-5 : Int32)) : Int32) = (2 : Int32) from by decide]
      show Goes p e below (T78.setTop (mkF m 47 #[.val (.int p1), .val (.int p2), .val (.int (2 : Int32)), .val (.int (1 : Int32)), .val (.ref (w 4)), .val (.ref (w 3)), .unset] [(.int (2 : Int32))])) _
      refine Goes.by (fun _ kz => XS.ifYes X78.here hx rfl (pc0 := 47) (pc' := 54) rfl (hb hby at_47) rfl ((if0 _ _).trans (feq (by decide : ¬ ((2 : Int32) = (0 : Int32)))).2) (by decide) (by decide) (XS.iconst X78.here hx rfl (hb hby at_54) (XS.istore X78.here hx rfl (hb hby at_55) rfl (l' := #[.val (.int p1), .val (.int p2), .val (.int (2 : Int32)), .val (.int (1 : Int32)), .val (.ref (w 4)), .val (.ref (w 3)), .val (.int (0 : Int32))]) rfl kz))) ?_
      show Goes p e below (T78.setTop (mkF m 57 #[.val (.int p1), .val (.int p2), .val (.int (2 : Int32)), .val (.int (1 : Int32)), .val (.ref (w 4)), .val (.ref (w 3)), .val (.int (0 : Int32))] [])) _
      refine Goes.by (fun _ kz => XS.aload X78.here hx rfl (hb hby at_57) rfl rfl (XS.aload X78.here hx rfl (hb hby at_59) rfl rfl kz)) ?_
      obtain ⟨cq81, kq81, q81a, q81b, q81c⟩ := isOf hZ e78 P.2.2.2.2.2.2.2.2.2.1
      obtain ⟨_, _, ⟨T81, L81, k81, n81⟩, -, X81, ⟨Lc81, hQ81, l81, y81, z81⟩, st81⟩ := X78.virtualBack hx (y := (⟨"com/example/nextkey/nextkey/lock/LockKind", "covers", "(Lcom/example/nextkey/nextkey/lock/LockKind;)Z"⟩ : MethodName)) (z := (⟨"com/example/nextkey/nextkey/lock/LockKind", "covers", "(Lcom/example/nextkey/nextkey/lock/LockKind;)Z"⟩ : MethodName)) hown (mvT hZ (hw _ (List.mem_of_getElem? (i := 13) rfl))) (mvT hZ (hw _ (List.mem_of_getElem? (i := 14) rfl))) (notFace_of_selects (args := #[]) (mvT hZ (hw _ (List.mem_of_getElem? (i := 16) rfl)))) (mvT hZ (hw _ (List.mem_of_getElem? (i := 16) rfl))) (mvT hZ (hw _ (List.mem_of_getElem? (i := 15) rfl))) (by decide) (backOf (W := 0) (r3_20 l Z a0 hw [] h0 n0 Z0 w P) hZ (hw _ (List.mem_of_getElem? (i := 17) rfl)) (hw _ (List.mem_of_getElem? (i := 6) rfl)) (by decide) (by decide)) q81a q81c (g := (mkF m 61 #[.val (.int p1), .val (.int p2), .val (.int (2 : Int32)), .val (.int (1 : Int32)), .val (.ref (w 4)), .val (.ref (w 3)), .val (.int (0 : Int32))] [(.ref (w 3)), (.ref (w 4))])) rfl (by rw [hml]; rfl) (Steps.refl _) (argsL := [(.ref (w 3))]) (rest := []) (lenOf pd2 rfl) rfl (by show 2 * 0 + _ ≤ _; exact Nat.le_of_eq rfl) (hb hby at_61) (fun _ _ => ⟨rfl, e78, (by decide : 0 + 0 ≤ _), (by decide : 0 + 0 ≤ _)⟩)
      dsimp only [Pt.U, Pt.locs, Pt.cells, Pt.slots] at X81 l81 y81 z81 st81 hQ81
      subst l81 y81 z81
      obtain ⟨rfl, Nq81, e81⟩ := hQ81
      have N81 := Fr.app N78 Nq81
      refine Goes.tr st81 ?_
      refine Goes.by (fun _ kz => XS.iload X81.here hx rfl (hb hby at_64) rfl (XS.icmpNo X81.here hx rfl (hb hby at_66) rfl (teq (by decide : (0 : Int32) = (0 : Int32))).2 (XS.iconst X81.here hx rfl (hb hby at_69) kz))) ?_
      show Goes p e below (T81.setTop (mkF m 70 #[.val (.int p1), .val (.int p2), .val (.int (2 : Int32)), .val (.int (1 : Int32)), .val (.ref (w 4)), .val (.ref (w 3)), .val (.int (0 : Int32))] [(.int (1 : Int32))])) _
      refine Goes.by (fun _ kz => XS.goto X81.here hx rfl (pc0 := 70) (pc' := 74) rfl (hb hby at_70) (by decide) (by decide) kz) ?_
      show Goes p e below (T81.setTop (mkF m 74 #[.val (.int p1), .val (.int p2), .val (.int (2 : Int32)), .val (.int (1 : Int32)), .val (.ref (w 4)), .val (.ref (w 3)), .val (.int (0 : Int32))] [(.int (1 : Int32))])) _
      obtain ⟨fs, hr, hrun, hended, hW, hsame⟩ := X81.leave (v := some (.int (1 : Int32))) (fun h => by rw [Bd.returns] at h; cases h)
      exact ⟨_, _, retN X81 hx (t := .boolean) Bd.returns (by simp) (hb hby at_74) hr, hrun, hended, _, _, rfl, ⟨rfl, N81⟩, ⟨_, rfl⟩, hW, hsame.mono (by decide) (by decide)⟩
    · show Goes p e below (s₁.setTop (mkF m 14 #[.val (.int p1), .val (.int p2), .val (.int (2 : Int32)), .val (.int (2 : Int32)), .unset, .unset, .unset] [])) _
      refine Goes.by (fun _ kz => XS.iloadN X0.here hx rfl (hb hby at_14) rfl kz) ?_
      obtain ⟨_, _, ⟨T82, L82, k82, n82⟩, -, X82, ⟨Lc82, hQ82, l82, y82, z82⟩, st82⟩ := Jvm.LawKit.callS X0 hx (y := (⟨"com/example/nextkey/nextkey/lock/LockKindCoversPinLaw", "kind", "(I)Lcom/example/nextkey/nextkey/lock/LockKind;"⟩ : MethodName)) hown (mvT hZ (hw _ (List.mem_of_getElem? (i := 1) rfl))) (mvT hZ (hw _ (List.mem_of_getElem? (i := 2) rfl))) (mvT hZ (hw _ (List.mem_of_getElem? (i := 3) rfl))) (mvT hZ (hw _ (List.mem_of_getElem? (i := 4) rfl))) (by decide) (backOf (W := 0) (r1_6 l Z a0 hw [] h0 n0 Z0 w P) hZ (hw _ (List.mem_of_getElem? (i := 4) rfl)) (hw _ (List.mem_of_getElem? (i := 3) rfl)) (by decide) (by decide)) (g := (mkF m 15 #[.val (.int p1), .val (.int p2), .val (.int (2 : Int32)), .val (.int (2 : Int32)), .unset, .unset, .unset] [(.int (2 : Int32))])) rfl (by rw [hml]; rfl) (argsL := [(.int (2 : Int32))]) (rest := []) (lenOf pd0 rfl) rfl (by show 2 * 0 + _ ≤ _; exact Nat.le_of_eq rfl) (hb hby at_15) (fun _ _ => ⟨rfl, e0, (by decide : 0 + 0 ≤ _), (by decide : 0 + 0 ≤ _)⟩)
      dsimp only [Pt.U, Pt.locs, Pt.cells, Pt.slots] at X82 l82 y82 z82 st82 hQ82
      subst l82 y82 z82
      obtain ⟨rfl, Nq82, e82⟩ := hQ82
      have N82 := Fr.app N0 Nq82
      refine Goes.by st82 ?_
      refine Goes.by (fun _ kz => XS.astore X82.here hx rfl (hb hby at_18) rfl rfl (l' := #[.val (.int p1), .val (.int p2), .val (.int (2 : Int32)), .val (.int (2 : Int32)), .val (.ref (w 4)), .unset, .unset]) rfl (XS.iloadN X82.here hx rfl (hb hby at_20) rfl kz)) ?_
      obtain ⟨_, _, ⟨T83, L83, k83, n83⟩, -, X83, ⟨Lc83, hQ83, l83, y83, z83⟩, st83⟩ := Jvm.LawKit.callS X82 hx (y := (⟨"com/example/nextkey/nextkey/lock/LockKindCoversPinLaw", "kind", "(I)Lcom/example/nextkey/nextkey/lock/LockKind;"⟩ : MethodName)) hown (mvT hZ (hw _ (List.mem_of_getElem? (i := 1) rfl))) (mvT hZ (hw _ (List.mem_of_getElem? (i := 2) rfl))) (mvT hZ (hw _ (List.mem_of_getElem? (i := 3) rfl))) (mvT hZ (hw _ (List.mem_of_getElem? (i := 4) rfl))) (by decide) (backOf (W := 0) (r1_6 l Z a0 hw [] h0 n0 Z0 w P) hZ (hw _ (List.mem_of_getElem? (i := 4) rfl)) (hw _ (List.mem_of_getElem? (i := 3) rfl)) (by decide) (by decide)) (g := (mkF m 21 #[.val (.int p1), .val (.int p2), .val (.int (2 : Int32)), .val (.int (2 : Int32)), .val (.ref (w 4)), .unset, .unset] [(.int (2 : Int32))])) rfl (by rw [hml]; rfl) (argsL := [(.int (2 : Int32))]) (rest := []) (lenOf pd0 rfl) rfl (by show 2 * 0 + _ ≤ _; exact Nat.le_of_eq rfl) (hb hby at_21) (fun _ _ => ⟨rfl, e82, (by decide : 0 + 0 ≤ _), (by decide : 0 + 0 ≤ _)⟩)
      dsimp only [Pt.U, Pt.locs, Pt.cells, Pt.slots] at X83 l83 y83 z83 st83 hQ83
      subst l83 y83 z83
      obtain ⟨rfl, Nq83, e83⟩ := hQ83
      have N83 := Fr.app N82 Nq83
      refine Goes.by st83 ?_
      refine Goes.by (fun _ kz => XS.astore X83.here hx rfl (hb hby at_24) rfl rfl (l' := #[.val (.int p1), .val (.int p2), .val (.int (2 : Int32)), .val (.int (2 : Int32)), .val (.ref (w 4)), .val (.ref (w 4)), .unset]) rfl (XS.iloadN X83.here hx rfl (hb hby at_26) rfl (XS.iconst X83.here hx rfl (hb hby at_27) kz))) ?_
      show Goes p e below (T83.setTop (mkF m 28 #[.val (.int p1), .val (.int p2), .val (.int (2 : Int32)), .val (.int (2 : Int32)), .val (.ref (w 4)), .val (.ref (w 4)), .unset] [(.int (4 : Int32)), (.int (2 : Int32))])) _
      refine Goes.by (fun _ kz => XS.icmpNo X83.here hx rfl (hb hby at_28) rfl (feq (by decide : ¬ ((2 : Int32) = (4 : Int32)))).1 (XS.iloadN X83.here hx rfl (hb hby at_31) rfl (XS.iconst X83.here hx rfl (hb hby at_32) kz))) ?_
      show Goes p e below (T83.setTop (mkF m 33 #[.val (.int p1), .val (.int p2), .val (.int (2 : Int32)), .val (.int (2 : Int32)), .val (.ref (w 4)), .val (.ref (w 4)), .unset] [(.int (4 : Int32)), (.int (2 : Int32))])) _
      refine Goes.by (fun _ kz => XS.icmpNo X83.here hx rfl (hb hby at_33) rfl (feq (by decide : ¬ ((2 : Int32) = (4 : Int32)))).1 (XS.iloadN X83.here hx rfl (hb hby at_36) rfl kz)) ?_
      obtain ⟨_, _, ⟨T84, L84, k84, n84⟩, -, X84, ⟨Lc84, hQ84, l84, y84, z84⟩, st84⟩ := Jvm.LawKit.callS X83 hx (y := (⟨"com/example/nextkey/nextkey/lock/LockKindCoversPinLaw", "parts", "(I)I"⟩ : MethodName)) hown (mvT hZ (hw _ (List.mem_of_getElem? (i := 10) rfl))) (mvT hZ (hw _ (List.mem_of_getElem? (i := 11) rfl))) (mvT hZ (hw _ (List.mem_of_getElem? (i := 3) rfl))) (mvT hZ (hw _ (List.mem_of_getElem? (i := 12) rfl))) (by decide) (backOf (W := 0) (r2_7 l Z a0 hw [] h0 n0 Z0 w P) hZ (hw _ (List.mem_of_getElem? (i := 12) rfl)) (hw _ (List.mem_of_getElem? (i := 3) rfl)) (by decide) (by decide)) (g := (mkF m 37 #[.val (.int p1), .val (.int p2), .val (.int (2 : Int32)), .val (.int (2 : Int32)), .val (.ref (w 4)), .val (.ref (w 4)), .unset] [(.int (2 : Int32))])) rfl (by rw [hml]; rfl) (argsL := [(.int (2 : Int32))]) (rest := []) (lenOf pd1 rfl) rfl (by show 2 * 0 + _ ≤ _; exact Nat.le_of_eq rfl) (hb hby at_37) (fun _ _ => ⟨rfl, e83, (by decide : 0 + 0 ≤ _), (by decide : 0 + 0 ≤ _)⟩)
      dsimp only [Pt.U, Pt.locs, Pt.cells, Pt.slots] at X84 l84 y84 z84 st84 hQ84
      subst l84 y84 z84
      obtain ⟨rfl, Nq84, e84⟩ := hQ84
      have N84 := Fr.app N83 Nq84
      refine Goes.by st84 ?_
      refine Goes.by (fun _ kz => XS.iloadN X84.here hx rfl (hb hby at_40) rfl kz) ?_
      obtain ⟨_, _, ⟨T85, L85, k85, n85⟩, -, X85, ⟨Lc85, hQ85, l85, y85, z85⟩, st85⟩ := Jvm.LawKit.callS X84 hx (y := (⟨"com/example/nextkey/nextkey/lock/LockKindCoversPinLaw", "parts", "(I)I"⟩ : MethodName)) hown (mvT hZ (hw _ (List.mem_of_getElem? (i := 10) rfl))) (mvT hZ (hw _ (List.mem_of_getElem? (i := 11) rfl))) (mvT hZ (hw _ (List.mem_of_getElem? (i := 3) rfl))) (mvT hZ (hw _ (List.mem_of_getElem? (i := 12) rfl))) (by decide) (backOf (W := 1) (r2_7 l Z a0 hw [] h0 n0 Z0 w P) hZ (hw _ (List.mem_of_getElem? (i := 12) rfl)) (hw _ (List.mem_of_getElem? (i := 3) rfl)) (by decide) (by decide)) (g := (mkF m 41 #[.val (.int p1), .val (.int p2), .val (.int (2 : Int32)), .val (.int (2 : Int32)), .val (.ref (w 4)), .val (.ref (w 4)), .unset] [(.int (2 : Int32)), (.int (4 : Int32))])) rfl (by rw [hml]; rfl) (argsL := [(.int (2 : Int32))]) (rest := [(.int (4 : Int32))]) (lenOf pd1 rfl) rfl (by show 2 * 0 + _ ≤ _; exact Nat.le_of_eq rfl) (hb hby at_41) (fun _ _ => ⟨rfl, e84, (by decide : 0 + 0 ≤ _), (by decide : 0 + 0 ≤ _)⟩)
      dsimp only [Pt.U, Pt.locs, Pt.cells, Pt.slots] at X85 l85 y85 z85 st85 hQ85
      subst l85 y85 z85
      obtain ⟨rfl, Nq85, e85⟩ := hQ85
      have N85 := Fr.app N84 Nq85
      refine Goes.by st85 ?_
      refine Goes.by (fun _ kz => XS.iconst X85.here hx rfl (hb hby at_44) (XS.ixor X85.here hx rfl (hb hby at_45) rfl kz)) ?_
      show Goes p e below (T85.setTop (mkF m 46 #[.val (.int p1), .val (.int p2), .val (.int (2 : Int32)), .val (.int (2 : Int32)), .val (.ref (w 4)), .val (.ref (w 4)), .unset] [(.int ((4 : Int32) ^^^ (-1 : Int32))), (.int (4 : Int32))])) _
      rw [show (((4 : Int32) ^^^ (-1 : Int32)) : Int32) = (-5 : Int32) from by decide]
      show Goes p e below (T85.setTop (mkF m 46 #[.val (.int p1), .val (.int p2), .val (.int (2 : Int32)), .val (.int (2 : Int32)), .val (.ref (w 4)), .val (.ref (w 4)), .unset] [(.int (-5 : Int32)), (.int (4 : Int32))])) _
      refine Goes.by (fun _ kz => XS.iand X85.here hx rfl (hb hby at_46) rfl kz) ?_
      show Goes p e below (T85.setTop (mkF m 47 #[.val (.int p1), .val (.int p2), .val (.int (2 : Int32)), .val (.int (2 : Int32)), .val (.ref (w 4)), .val (.ref (w 4)), .unset] [(.int ((4 : Int32) &&& (-5 : Int32)))])) _
      rw [show (((4 : Int32) &&& (-5 : Int32)) : Int32) = (0 : Int32) from by decide]
      show Goes p e below (T85.setTop (mkF m 47 #[.val (.int p1), .val (.int p2), .val (.int (2 : Int32)), .val (.int (2 : Int32)), .val (.ref (w 4)), .val (.ref (w 4)), .unset] [(.int (0 : Int32))])) _
      refine Goes.by (fun _ kz => XS.ifNo X85.here hx rfl (hb hby at_47) rfl ((if0 _ _).trans (teq (by decide : (0 : Int32) = (0 : Int32))).2) (XS.iconst X85.here hx rfl (hb hby at_50) (XS.goto X85.here hx rfl (pc0 := 51) (pc' := 55) rfl (hb hby at_51) (by decide) (by decide) kz))) ?_
      show Goes p e below (T85.setTop (mkF m 55 #[.val (.int p1), .val (.int p2), .val (.int (2 : Int32)), .val (.int (2 : Int32)), .val (.ref (w 4)), .val (.ref (w 4)), .unset] [(.int (1 : Int32))])) _
      refine Goes.by (fun _ kz => XS.istore X85.here hx rfl (hb hby at_55) rfl (l' := #[.val (.int p1), .val (.int p2), .val (.int (2 : Int32)), .val (.int (2 : Int32)), .val (.ref (w 4)), .val (.ref (w 4)), .val (.int (1 : Int32))]) rfl (XS.aload X85.here hx rfl (hb hby at_57) rfl rfl (XS.aload X85.here hx rfl (hb hby at_59) rfl rfl kz))) ?_
      obtain ⟨cq87, kq87, q87a, q87b, q87c⟩ := isOf hZ e85 P.2.2.2.2.2.2.2.2.2.1
      obtain ⟨_, _, ⟨T87, L87, k87, n87⟩, -, X87, ⟨Lc87, hQ87, l87, y87, z87⟩, st87⟩ := X85.virtualBack hx (y := (⟨"com/example/nextkey/nextkey/lock/LockKind", "covers", "(Lcom/example/nextkey/nextkey/lock/LockKind;)Z"⟩ : MethodName)) (z := (⟨"com/example/nextkey/nextkey/lock/LockKind", "covers", "(Lcom/example/nextkey/nextkey/lock/LockKind;)Z"⟩ : MethodName)) hown (mvT hZ (hw _ (List.mem_of_getElem? (i := 13) rfl))) (mvT hZ (hw _ (List.mem_of_getElem? (i := 14) rfl))) (notFace_of_selects (args := #[]) (mvT hZ (hw _ (List.mem_of_getElem? (i := 16) rfl)))) (mvT hZ (hw _ (List.mem_of_getElem? (i := 16) rfl))) (mvT hZ (hw _ (List.mem_of_getElem? (i := 15) rfl))) (by decide) (backOf (W := 0) (r3_21 l Z a0 hw [] h0 n0 Z0 w P) hZ (hw _ (List.mem_of_getElem? (i := 17) rfl)) (hw _ (List.mem_of_getElem? (i := 6) rfl)) (by decide) (by decide)) q87a q87c (g := (mkF m 61 #[.val (.int p1), .val (.int p2), .val (.int (2 : Int32)), .val (.int (2 : Int32)), .val (.ref (w 4)), .val (.ref (w 4)), .val (.int (1 : Int32))] [(.ref (w 4)), (.ref (w 4))])) rfl (by rw [hml]; rfl) (Steps.refl _) (argsL := [(.ref (w 4))]) (rest := []) (lenOf pd2 rfl) rfl (by show 2 * 0 + _ ≤ _; exact Nat.le_of_eq rfl) (hb hby at_61) (fun _ _ => ⟨rfl, e85, (by decide : 0 + 0 ≤ _), (by decide : 0 + 0 ≤ _)⟩)
      dsimp only [Pt.U, Pt.locs, Pt.cells, Pt.slots] at X87 l87 y87 z87 st87 hQ87
      subst l87 y87 z87
      obtain ⟨rfl, Nq87, e87⟩ := hQ87
      have N87 := Fr.app N85 Nq87
      refine Goes.tr st87 ?_
      refine Goes.by (fun _ kz => XS.iload X87.here hx rfl (hb hby at_64) rfl (XS.icmpNo X87.here hx rfl (hb hby at_66) rfl (teq (by decide : (1 : Int32) = (1 : Int32))).2 (XS.iconst X87.here hx rfl (hb hby at_69) kz))) ?_
      show Goes p e below (T87.setTop (mkF m 70 #[.val (.int p1), .val (.int p2), .val (.int (2 : Int32)), .val (.int (2 : Int32)), .val (.ref (w 4)), .val (.ref (w 4)), .val (.int (1 : Int32))] [(.int (1 : Int32))])) _
      refine Goes.by (fun _ kz => XS.goto X87.here hx rfl (pc0 := 70) (pc' := 74) rfl (hb hby at_70) (by decide) (by decide) kz) ?_
      show Goes p e below (T87.setTop (mkF m 74 #[.val (.int p1), .val (.int p2), .val (.int (2 : Int32)), .val (.int (2 : Int32)), .val (.ref (w 4)), .val (.ref (w 4)), .val (.int (1 : Int32))] [(.int (1 : Int32))])) _
      obtain ⟨fs, hr, hrun, hended, hW, hsame⟩ := X87.leave (v := some (.int (1 : Int32))) (fun h => by rw [Bd.returns] at h; cases h)
      exact ⟨_, _, retN X87 hx (t := .boolean) Bd.returns (by simp) (hb hby at_74) hr, hrun, hended, _, _, rfl, ⟨rfl, N87⟩, ⟨_, rfl⟩, hW, hsame.mono (by decide) (by decide)⟩
    · show Goes p e below (s₁.setTop (mkF m 14 #[.val (.int p1), .val (.int p2), .val (.int (2 : Int32)), .val (.int (3 : Int32)), .unset, .unset, .unset] [])) _
      refine Goes.by (fun _ kz => XS.iloadN X0.here hx rfl (hb hby at_14) rfl kz) ?_
      obtain ⟨_, _, ⟨T88, L88, k88, n88⟩, -, X88, ⟨Lc88, hQ88, l88, y88, z88⟩, st88⟩ := Jvm.LawKit.callS X0 hx (y := (⟨"com/example/nextkey/nextkey/lock/LockKindCoversPinLaw", "kind", "(I)Lcom/example/nextkey/nextkey/lock/LockKind;"⟩ : MethodName)) hown (mvT hZ (hw _ (List.mem_of_getElem? (i := 1) rfl))) (mvT hZ (hw _ (List.mem_of_getElem? (i := 2) rfl))) (mvT hZ (hw _ (List.mem_of_getElem? (i := 3) rfl))) (mvT hZ (hw _ (List.mem_of_getElem? (i := 4) rfl))) (by decide) (backOf (W := 0) (r1_6 l Z a0 hw [] h0 n0 Z0 w P) hZ (hw _ (List.mem_of_getElem? (i := 4) rfl)) (hw _ (List.mem_of_getElem? (i := 3) rfl)) (by decide) (by decide)) (g := (mkF m 15 #[.val (.int p1), .val (.int p2), .val (.int (2 : Int32)), .val (.int (3 : Int32)), .unset, .unset, .unset] [(.int (2 : Int32))])) rfl (by rw [hml]; rfl) (argsL := [(.int (2 : Int32))]) (rest := []) (lenOf pd0 rfl) rfl (by show 2 * 0 + _ ≤ _; exact Nat.le_of_eq rfl) (hb hby at_15) (fun _ _ => ⟨rfl, e0, (by decide : 0 + 0 ≤ _), (by decide : 0 + 0 ≤ _)⟩)
      dsimp only [Pt.U, Pt.locs, Pt.cells, Pt.slots] at X88 l88 y88 z88 st88 hQ88
      subst l88 y88 z88
      obtain ⟨rfl, Nq88, e88⟩ := hQ88
      have N88 := Fr.app N0 Nq88
      refine Goes.by st88 ?_
      refine Goes.by (fun _ kz => XS.astore X88.here hx rfl (hb hby at_18) rfl rfl (l' := #[.val (.int p1), .val (.int p2), .val (.int (2 : Int32)), .val (.int (3 : Int32)), .val (.ref (w 4)), .unset, .unset]) rfl (XS.iloadN X88.here hx rfl (hb hby at_20) rfl kz)) ?_
      obtain ⟨_, _, ⟨T89, L89, k89, n89⟩, -, X89, ⟨Lc89, hQ89, l89, y89, z89⟩, st89⟩ := Jvm.LawKit.callS X88 hx (y := (⟨"com/example/nextkey/nextkey/lock/LockKindCoversPinLaw", "kind", "(I)Lcom/example/nextkey/nextkey/lock/LockKind;"⟩ : MethodName)) hown (mvT hZ (hw _ (List.mem_of_getElem? (i := 1) rfl))) (mvT hZ (hw _ (List.mem_of_getElem? (i := 2) rfl))) (mvT hZ (hw _ (List.mem_of_getElem? (i := 3) rfl))) (mvT hZ (hw _ (List.mem_of_getElem? (i := 4) rfl))) (by decide) (backOf (W := 0) (r1_9 l Z a0 hw [] h0 n0 Z0 w P) hZ (hw _ (List.mem_of_getElem? (i := 4) rfl)) (hw _ (List.mem_of_getElem? (i := 3) rfl)) (by decide) (by decide)) (g := (mkF m 21 #[.val (.int p1), .val (.int p2), .val (.int (2 : Int32)), .val (.int (3 : Int32)), .val (.ref (w 4)), .unset, .unset] [(.int (3 : Int32))])) rfl (by rw [hml]; rfl) (argsL := [(.int (3 : Int32))]) (rest := []) (lenOf pd0 rfl) rfl (by show 2 * 0 + _ ≤ _; exact Nat.le_of_eq rfl) (hb hby at_21) (fun _ _ => ⟨rfl, e88, (by decide : 0 + 0 ≤ _), (by decide : 0 + 0 ≤ _)⟩)
      dsimp only [Pt.U, Pt.locs, Pt.cells, Pt.slots] at X89 l89 y89 z89 st89 hQ89
      subst l89 y89 z89
      obtain ⟨rfl, Nq89, e89⟩ := hQ89
      have N89 := Fr.app N88 Nq89
      refine Goes.by st89 ?_
      refine Goes.by (fun _ kz => XS.astore X89.here hx rfl (hb hby at_24) rfl rfl (l' := #[.val (.int p1), .val (.int p2), .val (.int (2 : Int32)), .val (.int (3 : Int32)), .val (.ref (w 4)), .val (.ref (w 1)), .unset]) rfl (XS.iloadN X89.here hx rfl (hb hby at_26) rfl (XS.iconst X89.here hx rfl (hb hby at_27) kz))) ?_
      show Goes p e below (T89.setTop (mkF m 28 #[.val (.int p1), .val (.int p2), .val (.int (2 : Int32)), .val (.int (3 : Int32)), .val (.ref (w 4)), .val (.ref (w 1)), .unset] [(.int (4 : Int32)), (.int (2 : Int32))])) _
      refine Goes.by (fun _ kz => XS.icmpNo X89.here hx rfl (hb hby at_28) rfl (feq (by decide : ¬ ((2 : Int32) = (4 : Int32)))).1 (XS.iloadN X89.here hx rfl (hb hby at_31) rfl (XS.iconst X89.here hx rfl (hb hby at_32) kz))) ?_
      show Goes p e below (T89.setTop (mkF m 33 #[.val (.int p1), .val (.int p2), .val (.int (2 : Int32)), .val (.int (3 : Int32)), .val (.ref (w 4)), .val (.ref (w 1)), .unset] [(.int (4 : Int32)), (.int (3 : Int32))])) _
      refine Goes.by (fun _ kz => XS.icmpNo X89.here hx rfl (hb hby at_33) rfl (feq (by decide : ¬ ((3 : Int32) = (4 : Int32)))).1 (XS.iloadN X89.here hx rfl (hb hby at_36) rfl kz)) ?_
      obtain ⟨_, _, ⟨T90, L90, k90, n90⟩, -, X90, ⟨Lc90, hQ90, l90, y90, z90⟩, st90⟩ := Jvm.LawKit.callS X89 hx (y := (⟨"com/example/nextkey/nextkey/lock/LockKindCoversPinLaw", "parts", "(I)I"⟩ : MethodName)) hown (mvT hZ (hw _ (List.mem_of_getElem? (i := 10) rfl))) (mvT hZ (hw _ (List.mem_of_getElem? (i := 11) rfl))) (mvT hZ (hw _ (List.mem_of_getElem? (i := 3) rfl))) (mvT hZ (hw _ (List.mem_of_getElem? (i := 12) rfl))) (by decide) (backOf (W := 0) (r2_10 l Z a0 hw [] h0 n0 Z0 w P) hZ (hw _ (List.mem_of_getElem? (i := 12) rfl)) (hw _ (List.mem_of_getElem? (i := 3) rfl)) (by decide) (by decide)) (g := (mkF m 37 #[.val (.int p1), .val (.int p2), .val (.int (2 : Int32)), .val (.int (3 : Int32)), .val (.ref (w 4)), .val (.ref (w 1)), .unset] [(.int (3 : Int32))])) rfl (by rw [hml]; rfl) (argsL := [(.int (3 : Int32))]) (rest := []) (lenOf pd1 rfl) rfl (by show 2 * 0 + _ ≤ _; exact Nat.le_of_eq rfl) (hb hby at_37) (fun _ _ => ⟨rfl, e89, (by decide : 0 + 0 ≤ _), (by decide : 0 + 0 ≤ _)⟩)
      dsimp only [Pt.U, Pt.locs, Pt.cells, Pt.slots] at X90 l90 y90 z90 st90 hQ90
      subst l90 y90 z90
      obtain ⟨rfl, Nq90, e90⟩ := hQ90
      have N90 := Fr.app N89 Nq90
      refine Goes.by st90 ?_
      refine Goes.by (fun _ kz => XS.iloadN X90.here hx rfl (hb hby at_40) rfl kz) ?_
      obtain ⟨_, _, ⟨T91, L91, k91, n91⟩, -, X91, ⟨Lc91, hQ91, l91, y91, z91⟩, st91⟩ := Jvm.LawKit.callS X90 hx (y := (⟨"com/example/nextkey/nextkey/lock/LockKindCoversPinLaw", "parts", "(I)I"⟩ : MethodName)) hown (mvT hZ (hw _ (List.mem_of_getElem? (i := 10) rfl))) (mvT hZ (hw _ (List.mem_of_getElem? (i := 11) rfl))) (mvT hZ (hw _ (List.mem_of_getElem? (i := 3) rfl))) (mvT hZ (hw _ (List.mem_of_getElem? (i := 12) rfl))) (by decide) (backOf (W := 1) (r2_7 l Z a0 hw [] h0 n0 Z0 w P) hZ (hw _ (List.mem_of_getElem? (i := 12) rfl)) (hw _ (List.mem_of_getElem? (i := 3) rfl)) (by decide) (by decide)) (g := (mkF m 41 #[.val (.int p1), .val (.int p2), .val (.int (2 : Int32)), .val (.int (3 : Int32)), .val (.ref (w 4)), .val (.ref (w 1)), .unset] [(.int (2 : Int32)), (.int (6 : Int32))])) rfl (by rw [hml]; rfl) (argsL := [(.int (2 : Int32))]) (rest := [(.int (6 : Int32))]) (lenOf pd1 rfl) rfl (by show 2 * 0 + _ ≤ _; exact Nat.le_of_eq rfl) (hb hby at_41) (fun _ _ => ⟨rfl, e90, (by decide : 0 + 0 ≤ _), (by decide : 0 + 0 ≤ _)⟩)
      dsimp only [Pt.U, Pt.locs, Pt.cells, Pt.slots] at X91 l91 y91 z91 st91 hQ91
      subst l91 y91 z91
      obtain ⟨rfl, Nq91, e91⟩ := hQ91
      have N91 := Fr.app N90 Nq91
      refine Goes.by st91 ?_
      refine Goes.by (fun _ kz => XS.iconst X91.here hx rfl (hb hby at_44) (XS.ixor X91.here hx rfl (hb hby at_45) rfl kz)) ?_
      show Goes p e below (T91.setTop (mkF m 46 #[.val (.int p1), .val (.int p2), .val (.int (2 : Int32)), .val (.int (3 : Int32)), .val (.ref (w 4)), .val (.ref (w 1)), .unset] [(.int ((4 : Int32) ^^^ (-1 : Int32))), (.int (6 : Int32))])) _
      rw [show (((4 : Int32) ^^^ (-1 : Int32)) : Int32) = (-5 : Int32) from by decide]
      show Goes p e below (T91.setTop (mkF m 46 #[.val (.int p1), .val (.int p2), .val (.int (2 : Int32)), .val (.int (3 : Int32)), .val (.ref (w 4)), .val (.ref (w 1)), .unset] [(.int (-5 : Int32)), (.int (6 : Int32))])) _
      refine Goes.by (fun _ kz => XS.iand X91.here hx rfl (hb hby at_46) rfl kz) ?_
      show Goes p e below (T91.setTop (mkF m 47 #[.val (.int p1), .val (.int p2), .val (.int (2 : Int32)), .val (.int (3 : Int32)), .val (.ref (w 4)), .val (.ref (w 1)), .unset] [(.int ((6 : Int32) &&& (-5 : Int32)))])) _
      rw [show (((6 : Int32) &&& (-5 : Int32)) : Int32) = (2 : Int32) from by decide]
      show Goes p e below (T91.setTop (mkF m 47 #[.val (.int p1), .val (.int p2), .val (.int (2 : Int32)), .val (.int (3 : Int32)), .val (.ref (w 4)), .val (.ref (w 1)), .unset] [(.int (2 : Int32))])) _
      refine Goes.by (fun _ kz => XS.ifYes X91.here hx rfl (pc0 := 47) (pc' := 54) rfl (hb hby at_47) rfl ((if0 _ _).trans (feq (by decide : ¬ ((2 : Int32) = (0 : Int32)))).2) (by decide) (by decide) (XS.iconst X91.here hx rfl (hb hby at_54) (XS.istore X91.here hx rfl (hb hby at_55) rfl (l' := #[.val (.int p1), .val (.int p2), .val (.int (2 : Int32)), .val (.int (3 : Int32)), .val (.ref (w 4)), .val (.ref (w 1)), .val (.int (0 : Int32))]) rfl kz))) ?_
      show Goes p e below (T91.setTop (mkF m 57 #[.val (.int p1), .val (.int p2), .val (.int (2 : Int32)), .val (.int (3 : Int32)), .val (.ref (w 4)), .val (.ref (w 1)), .val (.int (0 : Int32))] [])) _
      refine Goes.by (fun _ kz => XS.aload X91.here hx rfl (hb hby at_57) rfl rfl (XS.aload X91.here hx rfl (hb hby at_59) rfl rfl kz)) ?_
      obtain ⟨cq94, kq94, q94a, q94b, q94c⟩ := isOf hZ e91 P.2.2.2.2.2.2.2.2.2.1
      obtain ⟨_, _, ⟨T94, L94, k94, n94⟩, -, X94, ⟨Lc94, hQ94, l94, y94, z94⟩, st94⟩ := X91.virtualBack hx (y := (⟨"com/example/nextkey/nextkey/lock/LockKind", "covers", "(Lcom/example/nextkey/nextkey/lock/LockKind;)Z"⟩ : MethodName)) (z := (⟨"com/example/nextkey/nextkey/lock/LockKind", "covers", "(Lcom/example/nextkey/nextkey/lock/LockKind;)Z"⟩ : MethodName)) hown (mvT hZ (hw _ (List.mem_of_getElem? (i := 13) rfl))) (mvT hZ (hw _ (List.mem_of_getElem? (i := 14) rfl))) (notFace_of_selects (args := #[]) (mvT hZ (hw _ (List.mem_of_getElem? (i := 16) rfl)))) (mvT hZ (hw _ (List.mem_of_getElem? (i := 16) rfl))) (mvT hZ (hw _ (List.mem_of_getElem? (i := 15) rfl))) (by decide) (backOf (W := 0) (r3_22 l Z a0 hw [] h0 n0 Z0 w P) hZ (hw _ (List.mem_of_getElem? (i := 17) rfl)) (hw _ (List.mem_of_getElem? (i := 6) rfl)) (by decide) (by decide)) q94a q94c (g := (mkF m 61 #[.val (.int p1), .val (.int p2), .val (.int (2 : Int32)), .val (.int (3 : Int32)), .val (.ref (w 4)), .val (.ref (w 1)), .val (.int (0 : Int32))] [(.ref (w 1)), (.ref (w 4))])) rfl (by rw [hml]; rfl) (Steps.refl _) (argsL := [(.ref (w 1))]) (rest := []) (lenOf pd2 rfl) rfl (by show 2 * 0 + _ ≤ _; exact Nat.le_of_eq rfl) (hb hby at_61) (fun _ _ => ⟨rfl, e91, (by decide : 0 + 0 ≤ _), (by decide : 0 + 0 ≤ _)⟩)
      dsimp only [Pt.U, Pt.locs, Pt.cells, Pt.slots] at X94 l94 y94 z94 st94 hQ94
      subst l94 y94 z94
      obtain ⟨rfl, Nq94, e94⟩ := hQ94
      have N94 := Fr.app N91 Nq94
      refine Goes.tr st94 ?_
      refine Goes.by (fun _ kz => XS.iload X94.here hx rfl (hb hby at_64) rfl (XS.icmpNo X94.here hx rfl (hb hby at_66) rfl (teq (by decide : (0 : Int32) = (0 : Int32))).2 (XS.iconst X94.here hx rfl (hb hby at_69) kz))) ?_
      show Goes p e below (T94.setTop (mkF m 70 #[.val (.int p1), .val (.int p2), .val (.int (2 : Int32)), .val (.int (3 : Int32)), .val (.ref (w 4)), .val (.ref (w 1)), .val (.int (0 : Int32))] [(.int (1 : Int32))])) _
      refine Goes.by (fun _ kz => XS.goto X94.here hx rfl (pc0 := 70) (pc' := 74) rfl (hb hby at_70) (by decide) (by decide) kz) ?_
      show Goes p e below (T94.setTop (mkF m 74 #[.val (.int p1), .val (.int p2), .val (.int (2 : Int32)), .val (.int (3 : Int32)), .val (.ref (w 4)), .val (.ref (w 1)), .val (.int (0 : Int32))] [(.int (1 : Int32))])) _
      obtain ⟨fs, hr, hrun, hended, hW, hsame⟩ := X94.leave (v := some (.int (1 : Int32))) (fun h => by rw [Bd.returns] at h; cases h)
      exact ⟨_, _, retN X94 hx (t := .boolean) Bd.returns (by simp) (hb hby at_74) hr, hrun, hended, _, _, rfl, ⟨rfl, N94⟩, ⟨_, rfl⟩, hW, hsame.mono (by decide) (by decide)⟩
    · show Goes p e below (s₁.setTop (mkF m 14 #[.val (.int p1), .val (.int p2), .val (.int (2 : Int32)), .val (.int (4 : Int32)), .unset, .unset, .unset] [])) _
      refine Goes.by (fun _ kz => XS.iloadN X0.here hx rfl (hb hby at_14) rfl kz) ?_
      obtain ⟨_, _, ⟨T95, L95, k95, n95⟩, -, X95, ⟨Lc95, hQ95, l95, y95, z95⟩, st95⟩ := Jvm.LawKit.callS X0 hx (y := (⟨"com/example/nextkey/nextkey/lock/LockKindCoversPinLaw", "kind", "(I)Lcom/example/nextkey/nextkey/lock/LockKind;"⟩ : MethodName)) hown (mvT hZ (hw _ (List.mem_of_getElem? (i := 1) rfl))) (mvT hZ (hw _ (List.mem_of_getElem? (i := 2) rfl))) (mvT hZ (hw _ (List.mem_of_getElem? (i := 3) rfl))) (mvT hZ (hw _ (List.mem_of_getElem? (i := 4) rfl))) (by decide) (backOf (W := 0) (r1_6 l Z a0 hw [] h0 n0 Z0 w P) hZ (hw _ (List.mem_of_getElem? (i := 4) rfl)) (hw _ (List.mem_of_getElem? (i := 3) rfl)) (by decide) (by decide)) (g := (mkF m 15 #[.val (.int p1), .val (.int p2), .val (.int (2 : Int32)), .val (.int (4 : Int32)), .unset, .unset, .unset] [(.int (2 : Int32))])) rfl (by rw [hml]; rfl) (argsL := [(.int (2 : Int32))]) (rest := []) (lenOf pd0 rfl) rfl (by show 2 * 0 + _ ≤ _; exact Nat.le_of_eq rfl) (hb hby at_15) (fun _ _ => ⟨rfl, e0, (by decide : 0 + 0 ≤ _), (by decide : 0 + 0 ≤ _)⟩)
      dsimp only [Pt.U, Pt.locs, Pt.cells, Pt.slots] at X95 l95 y95 z95 st95 hQ95
      subst l95 y95 z95
      obtain ⟨rfl, Nq95, e95⟩ := hQ95
      have N95 := Fr.app N0 Nq95
      refine Goes.by st95 ?_
      refine Goes.by (fun _ kz => XS.astore X95.here hx rfl (hb hby at_18) rfl rfl (l' := #[.val (.int p1), .val (.int p2), .val (.int (2 : Int32)), .val (.int (4 : Int32)), .val (.ref (w 4)), .unset, .unset]) rfl (XS.iloadN X95.here hx rfl (hb hby at_20) rfl kz)) ?_
      obtain ⟨_, _, ⟨T96, L96, k96, n96⟩, -, X96, ⟨Lc96, hQ96, l96, y96, z96⟩, st96⟩ := Jvm.LawKit.callS X95 hx (y := (⟨"com/example/nextkey/nextkey/lock/LockKindCoversPinLaw", "kind", "(I)Lcom/example/nextkey/nextkey/lock/LockKind;"⟩ : MethodName)) hown (mvT hZ (hw _ (List.mem_of_getElem? (i := 1) rfl))) (mvT hZ (hw _ (List.mem_of_getElem? (i := 2) rfl))) (mvT hZ (hw _ (List.mem_of_getElem? (i := 3) rfl))) (mvT hZ (hw _ (List.mem_of_getElem? (i := 4) rfl))) (by decide) (backOf (W := 0) (r1_12 l Z a0 hw [] h0 n0 Z0 w P) hZ (hw _ (List.mem_of_getElem? (i := 4) rfl)) (hw _ (List.mem_of_getElem? (i := 3) rfl)) (by decide) (by decide)) (g := (mkF m 21 #[.val (.int p1), .val (.int p2), .val (.int (2 : Int32)), .val (.int (4 : Int32)), .val (.ref (w 4)), .unset, .unset] [(.int (4 : Int32))])) rfl (by rw [hml]; rfl) (argsL := [(.int (4 : Int32))]) (rest := []) (lenOf pd0 rfl) rfl (by show 2 * 0 + _ ≤ _; exact Nat.le_of_eq rfl) (hb hby at_21) (fun _ _ => ⟨rfl, e95, (by decide : 0 + 0 ≤ _), (by decide : 0 + 0 ≤ _)⟩)
      dsimp only [Pt.U, Pt.locs, Pt.cells, Pt.slots] at X96 l96 y96 z96 st96 hQ96
      subst l96 y96 z96
      obtain ⟨rfl, Nq96, e96⟩ := hQ96
      have N96 := Fr.app N95 Nq96
      refine Goes.by st96 ?_
      refine Goes.by (fun _ kz => XS.astore X96.here hx rfl (hb hby at_24) rfl rfl (l' := #[.val (.int p1), .val (.int p2), .val (.int (2 : Int32)), .val (.int (4 : Int32)), .val (.ref (w 4)), .val (.ref (w 2)), .unset]) rfl (XS.iloadN X96.here hx rfl (hb hby at_26) rfl (XS.iconst X96.here hx rfl (hb hby at_27) kz))) ?_
      show Goes p e below (T96.setTop (mkF m 28 #[.val (.int p1), .val (.int p2), .val (.int (2 : Int32)), .val (.int (4 : Int32)), .val (.ref (w 4)), .val (.ref (w 2)), .unset] [(.int (4 : Int32)), (.int (2 : Int32))])) _
      refine Goes.by (fun _ kz => XS.icmpNo X96.here hx rfl (hb hby at_28) rfl (feq (by decide : ¬ ((2 : Int32) = (4 : Int32)))).1 (XS.iloadN X96.here hx rfl (hb hby at_31) rfl (XS.iconst X96.here hx rfl (hb hby at_32) kz))) ?_
      show Goes p e below (T96.setTop (mkF m 33 #[.val (.int p1), .val (.int p2), .val (.int (2 : Int32)), .val (.int (4 : Int32)), .val (.ref (w 4)), .val (.ref (w 2)), .unset] [(.int (4 : Int32)), (.int (4 : Int32))])) _
      refine Goes.by (fun _ kz => XS.icmpYes X96.here hx rfl (pc0 := 33) (pc' := 54) rfl (hb hby at_33) rfl (teq (by decide : (4 : Int32) = (4 : Int32))).1 (by decide) (by decide) (XS.iconst X96.here hx rfl (hb hby at_54) (XS.istore X96.here hx rfl (hb hby at_55) rfl (l' := #[.val (.int p1), .val (.int p2), .val (.int (2 : Int32)), .val (.int (4 : Int32)), .val (.ref (w 4)), .val (.ref (w 2)), .val (.int (0 : Int32))]) rfl kz))) ?_
      show Goes p e below (T96.setTop (mkF m 57 #[.val (.int p1), .val (.int p2), .val (.int (2 : Int32)), .val (.int (4 : Int32)), .val (.ref (w 4)), .val (.ref (w 2)), .val (.int (0 : Int32))] [])) _
      refine Goes.by (fun _ kz => XS.aload X96.here hx rfl (hb hby at_57) rfl rfl (XS.aload X96.here hx rfl (hb hby at_59) rfl rfl kz)) ?_
      obtain ⟨cq98, kq98, q98a, q98b, q98c⟩ := isOf hZ e96 P.2.2.2.2.2.2.2.2.2.1
      obtain ⟨_, _, ⟨T98, L98, k98, n98⟩, -, X98, ⟨Lc98, hQ98, l98, y98, z98⟩, st98⟩ := X96.virtualBack hx (y := (⟨"com/example/nextkey/nextkey/lock/LockKind", "covers", "(Lcom/example/nextkey/nextkey/lock/LockKind;)Z"⟩ : MethodName)) (z := (⟨"com/example/nextkey/nextkey/lock/LockKind", "covers", "(Lcom/example/nextkey/nextkey/lock/LockKind;)Z"⟩ : MethodName)) hown (mvT hZ (hw _ (List.mem_of_getElem? (i := 13) rfl))) (mvT hZ (hw _ (List.mem_of_getElem? (i := 14) rfl))) (notFace_of_selects (args := #[]) (mvT hZ (hw _ (List.mem_of_getElem? (i := 16) rfl)))) (mvT hZ (hw _ (List.mem_of_getElem? (i := 16) rfl))) (mvT hZ (hw _ (List.mem_of_getElem? (i := 15) rfl))) (by decide) (backOf (W := 0) (r3_23 l Z a0 hw [] h0 n0 Z0 w P) hZ (hw _ (List.mem_of_getElem? (i := 17) rfl)) (hw _ (List.mem_of_getElem? (i := 6) rfl)) (by decide) (by decide)) q98a q98c (g := (mkF m 61 #[.val (.int p1), .val (.int p2), .val (.int (2 : Int32)), .val (.int (4 : Int32)), .val (.ref (w 4)), .val (.ref (w 2)), .val (.int (0 : Int32))] [(.ref (w 2)), (.ref (w 4))])) rfl (by rw [hml]; rfl) (Steps.refl _) (argsL := [(.ref (w 2))]) (rest := []) (lenOf pd2 rfl) rfl (by show 2 * 0 + _ ≤ _; exact Nat.le_of_eq rfl) (hb hby at_61) (fun _ _ => ⟨rfl, e96, (by decide : 0 + 0 ≤ _), (by decide : 0 + 0 ≤ _)⟩)
      dsimp only [Pt.U, Pt.locs, Pt.cells, Pt.slots] at X98 l98 y98 z98 st98 hQ98
      subst l98 y98 z98
      obtain ⟨rfl, Nq98, e98⟩ := hQ98
      have N98 := Fr.app N96 Nq98
      refine Goes.tr st98 ?_
      refine Goes.by (fun _ kz => XS.iload X98.here hx rfl (hb hby at_64) rfl (XS.icmpNo X98.here hx rfl (hb hby at_66) rfl (teq (by decide : (0 : Int32) = (0 : Int32))).2 (XS.iconst X98.here hx rfl (hb hby at_69) kz))) ?_
      show Goes p e below (T98.setTop (mkF m 70 #[.val (.int p1), .val (.int p2), .val (.int (2 : Int32)), .val (.int (4 : Int32)), .val (.ref (w 4)), .val (.ref (w 2)), .val (.int (0 : Int32))] [(.int (1 : Int32))])) _
      refine Goes.by (fun _ kz => XS.goto X98.here hx rfl (pc0 := 70) (pc' := 74) rfl (hb hby at_70) (by decide) (by decide) kz) ?_
      show Goes p e below (T98.setTop (mkF m 74 #[.val (.int p1), .val (.int p2), .val (.int (2 : Int32)), .val (.int (4 : Int32)), .val (.ref (w 4)), .val (.ref (w 2)), .val (.int (0 : Int32))] [(.int (1 : Int32))])) _
      obtain ⟨fs, hr, hrun, hended, hW, hsame⟩ := X98.leave (v := some (.int (1 : Int32))) (fun h => by rw [Bd.returns] at h; cases h)
      exact ⟨_, _, retN X98 hx (t := .boolean) Bd.returns (by simp) (hb hby at_74) hr, hrun, hended, _, _, rfl, ⟨rfl, N98⟩, ⟨_, rfl⟩, hW, hsame.mono (by decide) (by decide)⟩
  · show Goes p e below (s₁.setTop (mkF m 7 #[.val (.int p1), .val (.int p2), .val (.int (3 : Int32)), .unset, .unset, .unset, .unset] [])) _
    refine Goes.by (fun _ kz => XS.iloadN X0.here hx rfl (hb hby at_7) rfl (X0.ldcInt hx hown (mvT hZ (hw _ (List.mem_of_getElem? (i := 0) rfl))) (g := (mkF m 8 #[.val (.int p1), .val (.int p2), .val (.int (3 : Int32)), .unset, .unset, .unset, .unset] [(.int p2)])) rfl (hb hby at_8) _ (XS.iand X0.here hx rfl (hb hby at_10) rfl kz))) ?_
    show Goes p e below (s₁.setTop (mkF m 11 #[.val (.int p1), .val (.int p2), .val (.int (3 : Int32)), .unset, .unset, .unset, .unset] [(.int (p2 &&& (2147483647 : Int32)))])) _
    refine Goes.by (fun _ kz => XS.iconst X0.here hx rfl (hb hby at_11) (iremM X0 hx rfl (hb hby at_12) rfl (by decide) (XS.istoreN X0.here hx rfl (hb hby at_13) rfl (l' := #[.val (.int p1), .val (.int p2), .val (.int (3 : Int32)), .val (.int ((p2 &&& (2147483647 : Int32)) % (5 : Int32))), .unset, .unset, .unset]) rfl kz))) ?_
    show Goes p e below (s₁.setTop (mkF m 14 #[.val (.int p1), .val (.int p2), .val (.int (3 : Int32)), .val (.int ((p2 &&& (2147483647 : Int32)) % (5 : Int32))), .unset, .unset, .unset] [])) _
    have hsj := own_split p2
    obtain ⟨j, hj⟩ : ∃ z, z = ((p2 &&& (2147483647 : Int32)) % (5 : Int32)) := ⟨_, rfl⟩
    rw [← hj] at hsj ⊢
    rcases hsj with rfl | rfl | rfl | rfl | rfl
    · show Goes p e below (s₁.setTop (mkF m 14 #[.val (.int p1), .val (.int p2), .val (.int (3 : Int32)), .val (.int (0 : Int32)), .unset, .unset, .unset] [])) _
      refine Goes.by (fun _ kz => XS.iloadN X0.here hx rfl (hb hby at_14) rfl kz) ?_
      obtain ⟨_, _, ⟨T99, L99, k99, n99⟩, -, X99, ⟨Lc99, hQ99, l99, y99, z99⟩, st99⟩ := Jvm.LawKit.callS X0 hx (y := (⟨"com/example/nextkey/nextkey/lock/LockKindCoversPinLaw", "kind", "(I)Lcom/example/nextkey/nextkey/lock/LockKind;"⟩ : MethodName)) hown (mvT hZ (hw _ (List.mem_of_getElem? (i := 1) rfl))) (mvT hZ (hw _ (List.mem_of_getElem? (i := 2) rfl))) (mvT hZ (hw _ (List.mem_of_getElem? (i := 3) rfl))) (mvT hZ (hw _ (List.mem_of_getElem? (i := 4) rfl))) (by decide) (backOf (W := 0) (r1_9 l Z a0 hw [] h0 n0 Z0 w P) hZ (hw _ (List.mem_of_getElem? (i := 4) rfl)) (hw _ (List.mem_of_getElem? (i := 3) rfl)) (by decide) (by decide)) (g := (mkF m 15 #[.val (.int p1), .val (.int p2), .val (.int (3 : Int32)), .val (.int (0 : Int32)), .unset, .unset, .unset] [(.int (3 : Int32))])) rfl (by rw [hml]; rfl) (argsL := [(.int (3 : Int32))]) (rest := []) (lenOf pd0 rfl) rfl (by show 2 * 0 + _ ≤ _; exact Nat.le_of_eq rfl) (hb hby at_15) (fun _ _ => ⟨rfl, e0, (by decide : 0 + 0 ≤ _), (by decide : 0 + 0 ≤ _)⟩)
      dsimp only [Pt.U, Pt.locs, Pt.cells, Pt.slots] at X99 l99 y99 z99 st99 hQ99
      subst l99 y99 z99
      obtain ⟨rfl, Nq99, e99⟩ := hQ99
      have N99 := Fr.app N0 Nq99
      refine Goes.by st99 ?_
      refine Goes.by (fun _ kz => XS.astore X99.here hx rfl (hb hby at_18) rfl rfl (l' := #[.val (.int p1), .val (.int p2), .val (.int (3 : Int32)), .val (.int (0 : Int32)), .val (.ref (w 1)), .unset, .unset]) rfl (XS.iloadN X99.here hx rfl (hb hby at_20) rfl kz)) ?_
      obtain ⟨_, _, ⟨T100, L100, k100, n100⟩, -, X100, ⟨Lc100, hQ100, l100, y100, z100⟩, st100⟩ := Jvm.LawKit.callS X99 hx (y := (⟨"com/example/nextkey/nextkey/lock/LockKindCoversPinLaw", "kind", "(I)Lcom/example/nextkey/nextkey/lock/LockKind;"⟩ : MethodName)) hown (mvT hZ (hw _ (List.mem_of_getElem? (i := 1) rfl))) (mvT hZ (hw _ (List.mem_of_getElem? (i := 2) rfl))) (mvT hZ (hw _ (List.mem_of_getElem? (i := 3) rfl))) (mvT hZ (hw _ (List.mem_of_getElem? (i := 4) rfl))) (by decide) (backOf (W := 0) (r1_0 l Z a0 hw [] h0 n0 Z0 w P) hZ (hw _ (List.mem_of_getElem? (i := 4) rfl)) (hw _ (List.mem_of_getElem? (i := 3) rfl)) (by decide) (by decide)) (g := (mkF m 21 #[.val (.int p1), .val (.int p2), .val (.int (3 : Int32)), .val (.int (0 : Int32)), .val (.ref (w 1)), .unset, .unset] [(.int (0 : Int32))])) rfl (by rw [hml]; rfl) (argsL := [(.int (0 : Int32))]) (rest := []) (lenOf pd0 rfl) rfl (by show 2 * 0 + _ ≤ _; exact Nat.le_of_eq rfl) (hb hby at_21) (fun _ _ => ⟨rfl, e99, (by decide : 0 + 0 ≤ _), (by decide : 0 + 0 ≤ _)⟩)
      dsimp only [Pt.U, Pt.locs, Pt.cells, Pt.slots] at X100 l100 y100 z100 st100 hQ100
      subst l100 y100 z100
      obtain ⟨rfl, Nq100, e100⟩ := hQ100
      have N100 := Fr.app N99 Nq100
      refine Goes.by st100 ?_
      refine Goes.by (fun _ kz => XS.astore X100.here hx rfl (hb hby at_24) rfl rfl (l' := #[.val (.int p1), .val (.int p2), .val (.int (3 : Int32)), .val (.int (0 : Int32)), .val (.ref (w 1)), .val (.ref (w 0)), .unset]) rfl (XS.iloadN X100.here hx rfl (hb hby at_26) rfl (XS.iconst X100.here hx rfl (hb hby at_27) kz))) ?_
      show Goes p e below (T100.setTop (mkF m 28 #[.val (.int p1), .val (.int p2), .val (.int (3 : Int32)), .val (.int (0 : Int32)), .val (.ref (w 1)), .val (.ref (w 0)), .unset] [(.int (4 : Int32)), (.int (3 : Int32))])) _
      refine Goes.by (fun _ kz => XS.icmpNo X100.here hx rfl (hb hby at_28) rfl (feq (by decide : ¬ ((3 : Int32) = (4 : Int32)))).1 (XS.iloadN X100.here hx rfl (hb hby at_31) rfl (XS.iconst X100.here hx rfl (hb hby at_32) kz))) ?_
      show Goes p e below (T100.setTop (mkF m 33 #[.val (.int p1), .val (.int p2), .val (.int (3 : Int32)), .val (.int (0 : Int32)), .val (.ref (w 1)), .val (.ref (w 0)), .unset] [(.int (4 : Int32)), (.int (0 : Int32))])) _
      refine Goes.by (fun _ kz => XS.icmpNo X100.here hx rfl (hb hby at_33) rfl (feq (by decide : ¬ ((0 : Int32) = (4 : Int32)))).1 (XS.iloadN X100.here hx rfl (hb hby at_36) rfl kz)) ?_
      obtain ⟨_, _, ⟨T101, L101, k101, n101⟩, -, X101, ⟨Lc101, hQ101, l101, y101, z101⟩, st101⟩ := Jvm.LawKit.callS X100 hx (y := (⟨"com/example/nextkey/nextkey/lock/LockKindCoversPinLaw", "parts", "(I)I"⟩ : MethodName)) hown (mvT hZ (hw _ (List.mem_of_getElem? (i := 10) rfl))) (mvT hZ (hw _ (List.mem_of_getElem? (i := 11) rfl))) (mvT hZ (hw _ (List.mem_of_getElem? (i := 3) rfl))) (mvT hZ (hw _ (List.mem_of_getElem? (i := 12) rfl))) (by decide) (backOf (W := 0) (r2_1 l Z a0 hw [] h0 n0 Z0 w P) hZ (hw _ (List.mem_of_getElem? (i := 12) rfl)) (hw _ (List.mem_of_getElem? (i := 3) rfl)) (by decide) (by decide)) (g := (mkF m 37 #[.val (.int p1), .val (.int p2), .val (.int (3 : Int32)), .val (.int (0 : Int32)), .val (.ref (w 1)), .val (.ref (w 0)), .unset] [(.int (0 : Int32))])) rfl (by rw [hml]; rfl) (argsL := [(.int (0 : Int32))]) (rest := []) (lenOf pd1 rfl) rfl (by show 2 * 0 + _ ≤ _; exact Nat.le_of_eq rfl) (hb hby at_37) (fun _ _ => ⟨rfl, e100, (by decide : 0 + 0 ≤ _), (by decide : 0 + 0 ≤ _)⟩)
      dsimp only [Pt.U, Pt.locs, Pt.cells, Pt.slots] at X101 l101 y101 z101 st101 hQ101
      subst l101 y101 z101
      obtain ⟨rfl, Nq101, e101⟩ := hQ101
      have N101 := Fr.app N100 Nq101
      refine Goes.by st101 ?_
      refine Goes.by (fun _ kz => XS.iloadN X101.here hx rfl (hb hby at_40) rfl kz) ?_
      obtain ⟨_, _, ⟨T102, L102, k102, n102⟩, -, X102, ⟨Lc102, hQ102, l102, y102, z102⟩, st102⟩ := Jvm.LawKit.callS X101 hx (y := (⟨"com/example/nextkey/nextkey/lock/LockKindCoversPinLaw", "parts", "(I)I"⟩ : MethodName)) hown (mvT hZ (hw _ (List.mem_of_getElem? (i := 10) rfl))) (mvT hZ (hw _ (List.mem_of_getElem? (i := 11) rfl))) (mvT hZ (hw _ (List.mem_of_getElem? (i := 3) rfl))) (mvT hZ (hw _ (List.mem_of_getElem? (i := 12) rfl))) (by decide) (backOf (W := 1) (r2_10 l Z a0 hw [] h0 n0 Z0 w P) hZ (hw _ (List.mem_of_getElem? (i := 12) rfl)) (hw _ (List.mem_of_getElem? (i := 3) rfl)) (by decide) (by decide)) (g := (mkF m 41 #[.val (.int p1), .val (.int p2), .val (.int (3 : Int32)), .val (.int (0 : Int32)), .val (.ref (w 1)), .val (.ref (w 0)), .unset] [(.int (3 : Int32)), (.int (1 : Int32))])) rfl (by rw [hml]; rfl) (argsL := [(.int (3 : Int32))]) (rest := [(.int (1 : Int32))]) (lenOf pd1 rfl) rfl (by show 2 * 0 + _ ≤ _; exact Nat.le_of_eq rfl) (hb hby at_41) (fun _ _ => ⟨rfl, e101, (by decide : 0 + 0 ≤ _), (by decide : 0 + 0 ≤ _)⟩)
      dsimp only [Pt.U, Pt.locs, Pt.cells, Pt.slots] at X102 l102 y102 z102 st102 hQ102
      subst l102 y102 z102
      obtain ⟨rfl, Nq102, e102⟩ := hQ102
      have N102 := Fr.app N101 Nq102
      refine Goes.by st102 ?_
      refine Goes.by (fun _ kz => XS.iconst X102.here hx rfl (hb hby at_44) (XS.ixor X102.here hx rfl (hb hby at_45) rfl kz)) ?_
      show Goes p e below (T102.setTop (mkF m 46 #[.val (.int p1), .val (.int p2), .val (.int (3 : Int32)), .val (.int (0 : Int32)), .val (.ref (w 1)), .val (.ref (w 0)), .unset] [(.int ((6 : Int32) ^^^ (-1 : Int32))), (.int (1 : Int32))])) _
      rw [show (((6 : Int32) ^^^ (-1 : Int32)) : Int32) = (-7 : Int32) from by decide]
      show Goes p e below (T102.setTop (mkF m 46 #[.val (.int p1), .val (.int p2), .val (.int (3 : Int32)), .val (.int (0 : Int32)), .val (.ref (w 1)), .val (.ref (w 0)), .unset] [(.int (-7 : Int32)), (.int (1 : Int32))])) _
      refine Goes.by (fun _ kz => XS.iand X102.here hx rfl (hb hby at_46) rfl kz) ?_
      show Goes p e below (T102.setTop (mkF m 47 #[.val (.int p1), .val (.int p2), .val (.int (3 : Int32)), .val (.int (0 : Int32)), .val (.ref (w 1)), .val (.ref (w 0)), .unset] [(.int ((1 : Int32) &&& (-7 : Int32)))])) _
      rw [show (((1 : Int32) &&& (-7 : Int32)) : Int32) = (1 : Int32) from by decide]
      show Goes p e below (T102.setTop (mkF m 47 #[.val (.int p1), .val (.int p2), .val (.int (3 : Int32)), .val (.int (0 : Int32)), .val (.ref (w 1)), .val (.ref (w 0)), .unset] [(.int (1 : Int32))])) _
      refine Goes.by (fun _ kz => XS.ifYes X102.here hx rfl (pc0 := 47) (pc' := 54) rfl (hb hby at_47) rfl ((if0 _ _).trans (feq (by decide : ¬ ((1 : Int32) = (0 : Int32)))).2) (by decide) (by decide) (XS.iconst X102.here hx rfl (hb hby at_54) (XS.istore X102.here hx rfl (hb hby at_55) rfl (l' := #[.val (.int p1), .val (.int p2), .val (.int (3 : Int32)), .val (.int (0 : Int32)), .val (.ref (w 1)), .val (.ref (w 0)), .val (.int (0 : Int32))]) rfl kz))) ?_
      show Goes p e below (T102.setTop (mkF m 57 #[.val (.int p1), .val (.int p2), .val (.int (3 : Int32)), .val (.int (0 : Int32)), .val (.ref (w 1)), .val (.ref (w 0)), .val (.int (0 : Int32))] [])) _
      refine Goes.by (fun _ kz => XS.aload X102.here hx rfl (hb hby at_57) rfl rfl (XS.aload X102.here hx rfl (hb hby at_59) rfl rfl kz)) ?_
      obtain ⟨cq106, kq106, q106a, q106b, q106c⟩ := isOf hZ e102 P.2.2.2.1
      obtain ⟨_, _, ⟨T106, L106, k106, n106⟩, -, X106, ⟨Lc106, hQ106, l106, y106, z106⟩, st106⟩ := X102.virtualBack hx (y := (⟨"com/example/nextkey/nextkey/lock/LockKind", "covers", "(Lcom/example/nextkey/nextkey/lock/LockKind;)Z"⟩ : MethodName)) (z := (⟨"com/example/nextkey/nextkey/lock/LockKind", "covers", "(Lcom/example/nextkey/nextkey/lock/LockKind;)Z"⟩ : MethodName)) hown (mvT hZ (hw _ (List.mem_of_getElem? (i := 13) rfl))) (mvT hZ (hw _ (List.mem_of_getElem? (i := 14) rfl))) (notFace_of_selects (args := #[]) (mvT hZ (hw _ (List.mem_of_getElem? (i := 16) rfl)))) (mvT hZ (hw _ (List.mem_of_getElem? (i := 16) rfl))) (mvT hZ (hw _ (List.mem_of_getElem? (i := 15) rfl))) (by decide) (backOf (W := 0) (r3_24 l Z a0 hw [] h0 n0 Z0 w P) hZ (hw _ (List.mem_of_getElem? (i := 17) rfl)) (hw _ (List.mem_of_getElem? (i := 6) rfl)) (by decide) (by decide)) q106a q106c (g := (mkF m 61 #[.val (.int p1), .val (.int p2), .val (.int (3 : Int32)), .val (.int (0 : Int32)), .val (.ref (w 1)), .val (.ref (w 0)), .val (.int (0 : Int32))] [(.ref (w 0)), (.ref (w 1))])) rfl (by rw [hml]; rfl) (Steps.refl _) (argsL := [(.ref (w 0))]) (rest := []) (lenOf pd2 rfl) rfl (by show 2 * 0 + _ ≤ _; exact Nat.le_of_eq rfl) (hb hby at_61) (fun _ _ => ⟨rfl, e102, (by decide : 0 + 0 ≤ _), (by decide : 0 + 0 ≤ _)⟩)
      dsimp only [Pt.U, Pt.locs, Pt.cells, Pt.slots] at X106 l106 y106 z106 st106 hQ106
      subst l106 y106 z106
      obtain ⟨rfl, Nq106, e106⟩ := hQ106
      have N106 := Fr.app N102 Nq106
      refine Goes.tr st106 ?_
      refine Goes.by (fun _ kz => XS.iload X106.here hx rfl (hb hby at_64) rfl (XS.icmpNo X106.here hx rfl (hb hby at_66) rfl (teq (by decide : (0 : Int32) = (0 : Int32))).2 (XS.iconst X106.here hx rfl (hb hby at_69) kz))) ?_
      show Goes p e below (T106.setTop (mkF m 70 #[.val (.int p1), .val (.int p2), .val (.int (3 : Int32)), .val (.int (0 : Int32)), .val (.ref (w 1)), .val (.ref (w 0)), .val (.int (0 : Int32))] [(.int (1 : Int32))])) _
      refine Goes.by (fun _ kz => XS.goto X106.here hx rfl (pc0 := 70) (pc' := 74) rfl (hb hby at_70) (by decide) (by decide) kz) ?_
      show Goes p e below (T106.setTop (mkF m 74 #[.val (.int p1), .val (.int p2), .val (.int (3 : Int32)), .val (.int (0 : Int32)), .val (.ref (w 1)), .val (.ref (w 0)), .val (.int (0 : Int32))] [(.int (1 : Int32))])) _
      obtain ⟨fs, hr, hrun, hended, hW, hsame⟩ := X106.leave (v := some (.int (1 : Int32))) (fun h => by rw [Bd.returns] at h; cases h)
      exact ⟨_, _, retN X106 hx (t := .boolean) Bd.returns (by simp) (hb hby at_74) hr, hrun, hended, _, _, rfl, ⟨rfl, N106⟩, ⟨_, rfl⟩, hW, hsame.mono (by decide) (by decide)⟩
    · show Goes p e below (s₁.setTop (mkF m 14 #[.val (.int p1), .val (.int p2), .val (.int (3 : Int32)), .val (.int (1 : Int32)), .unset, .unset, .unset] [])) _
      refine Goes.by (fun _ kz => XS.iloadN X0.here hx rfl (hb hby at_14) rfl kz) ?_
      obtain ⟨_, _, ⟨T107, L107, k107, n107⟩, -, X107, ⟨Lc107, hQ107, l107, y107, z107⟩, st107⟩ := Jvm.LawKit.callS X0 hx (y := (⟨"com/example/nextkey/nextkey/lock/LockKindCoversPinLaw", "kind", "(I)Lcom/example/nextkey/nextkey/lock/LockKind;"⟩ : MethodName)) hown (mvT hZ (hw _ (List.mem_of_getElem? (i := 1) rfl))) (mvT hZ (hw _ (List.mem_of_getElem? (i := 2) rfl))) (mvT hZ (hw _ (List.mem_of_getElem? (i := 3) rfl))) (mvT hZ (hw _ (List.mem_of_getElem? (i := 4) rfl))) (by decide) (backOf (W := 0) (r1_9 l Z a0 hw [] h0 n0 Z0 w P) hZ (hw _ (List.mem_of_getElem? (i := 4) rfl)) (hw _ (List.mem_of_getElem? (i := 3) rfl)) (by decide) (by decide)) (g := (mkF m 15 #[.val (.int p1), .val (.int p2), .val (.int (3 : Int32)), .val (.int (1 : Int32)), .unset, .unset, .unset] [(.int (3 : Int32))])) rfl (by rw [hml]; rfl) (argsL := [(.int (3 : Int32))]) (rest := []) (lenOf pd0 rfl) rfl (by show 2 * 0 + _ ≤ _; exact Nat.le_of_eq rfl) (hb hby at_15) (fun _ _ => ⟨rfl, e0, (by decide : 0 + 0 ≤ _), (by decide : 0 + 0 ≤ _)⟩)
      dsimp only [Pt.U, Pt.locs, Pt.cells, Pt.slots] at X107 l107 y107 z107 st107 hQ107
      subst l107 y107 z107
      obtain ⟨rfl, Nq107, e107⟩ := hQ107
      have N107 := Fr.app N0 Nq107
      refine Goes.by st107 ?_
      refine Goes.by (fun _ kz => XS.astore X107.here hx rfl (hb hby at_18) rfl rfl (l' := #[.val (.int p1), .val (.int p2), .val (.int (3 : Int32)), .val (.int (1 : Int32)), .val (.ref (w 1)), .unset, .unset]) rfl (XS.iloadN X107.here hx rfl (hb hby at_20) rfl kz)) ?_
      obtain ⟨_, _, ⟨T108, L108, k108, n108⟩, -, X108, ⟨Lc108, hQ108, l108, y108, z108⟩, st108⟩ := Jvm.LawKit.callS X107 hx (y := (⟨"com/example/nextkey/nextkey/lock/LockKindCoversPinLaw", "kind", "(I)Lcom/example/nextkey/nextkey/lock/LockKind;"⟩ : MethodName)) hown (mvT hZ (hw _ (List.mem_of_getElem? (i := 1) rfl))) (mvT hZ (hw _ (List.mem_of_getElem? (i := 2) rfl))) (mvT hZ (hw _ (List.mem_of_getElem? (i := 3) rfl))) (mvT hZ (hw _ (List.mem_of_getElem? (i := 4) rfl))) (by decide) (backOf (W := 0) (r1_3 l Z a0 hw [] h0 n0 Z0 w P) hZ (hw _ (List.mem_of_getElem? (i := 4) rfl)) (hw _ (List.mem_of_getElem? (i := 3) rfl)) (by decide) (by decide)) (g := (mkF m 21 #[.val (.int p1), .val (.int p2), .val (.int (3 : Int32)), .val (.int (1 : Int32)), .val (.ref (w 1)), .unset, .unset] [(.int (1 : Int32))])) rfl (by rw [hml]; rfl) (argsL := [(.int (1 : Int32))]) (rest := []) (lenOf pd0 rfl) rfl (by show 2 * 0 + _ ≤ _; exact Nat.le_of_eq rfl) (hb hby at_21) (fun _ _ => ⟨rfl, e107, (by decide : 0 + 0 ≤ _), (by decide : 0 + 0 ≤ _)⟩)
      dsimp only [Pt.U, Pt.locs, Pt.cells, Pt.slots] at X108 l108 y108 z108 st108 hQ108
      subst l108 y108 z108
      obtain ⟨rfl, Nq108, e108⟩ := hQ108
      have N108 := Fr.app N107 Nq108
      refine Goes.by st108 ?_
      refine Goes.by (fun _ kz => XS.astore X108.here hx rfl (hb hby at_24) rfl rfl (l' := #[.val (.int p1), .val (.int p2), .val (.int (3 : Int32)), .val (.int (1 : Int32)), .val (.ref (w 1)), .val (.ref (w 3)), .unset]) rfl (XS.iloadN X108.here hx rfl (hb hby at_26) rfl (XS.iconst X108.here hx rfl (hb hby at_27) kz))) ?_
      show Goes p e below (T108.setTop (mkF m 28 #[.val (.int p1), .val (.int p2), .val (.int (3 : Int32)), .val (.int (1 : Int32)), .val (.ref (w 1)), .val (.ref (w 3)), .unset] [(.int (4 : Int32)), (.int (3 : Int32))])) _
      refine Goes.by (fun _ kz => XS.icmpNo X108.here hx rfl (hb hby at_28) rfl (feq (by decide : ¬ ((3 : Int32) = (4 : Int32)))).1 (XS.iloadN X108.here hx rfl (hb hby at_31) rfl (XS.iconst X108.here hx rfl (hb hby at_32) kz))) ?_
      show Goes p e below (T108.setTop (mkF m 33 #[.val (.int p1), .val (.int p2), .val (.int (3 : Int32)), .val (.int (1 : Int32)), .val (.ref (w 1)), .val (.ref (w 3)), .unset] [(.int (4 : Int32)), (.int (1 : Int32))])) _
      refine Goes.by (fun _ kz => XS.icmpNo X108.here hx rfl (hb hby at_33) rfl (feq (by decide : ¬ ((1 : Int32) = (4 : Int32)))).1 (XS.iloadN X108.here hx rfl (hb hby at_36) rfl kz)) ?_
      obtain ⟨_, _, ⟨T109, L109, k109, n109⟩, -, X109, ⟨Lc109, hQ109, l109, y109, z109⟩, st109⟩ := Jvm.LawKit.callS X108 hx (y := (⟨"com/example/nextkey/nextkey/lock/LockKindCoversPinLaw", "parts", "(I)I"⟩ : MethodName)) hown (mvT hZ (hw _ (List.mem_of_getElem? (i := 10) rfl))) (mvT hZ (hw _ (List.mem_of_getElem? (i := 11) rfl))) (mvT hZ (hw _ (List.mem_of_getElem? (i := 3) rfl))) (mvT hZ (hw _ (List.mem_of_getElem? (i := 12) rfl))) (by decide) (backOf (W := 0) (r2_4 l Z a0 hw [] h0 n0 Z0 w P) hZ (hw _ (List.mem_of_getElem? (i := 12) rfl)) (hw _ (List.mem_of_getElem? (i := 3) rfl)) (by decide) (by decide)) (g := (mkF m 37 #[.val (.int p1), .val (.int p2), .val (.int (3 : Int32)), .val (.int (1 : Int32)), .val (.ref (w 1)), .val (.ref (w 3)), .unset] [(.int (1 : Int32))])) rfl (by rw [hml]; rfl) (argsL := [(.int (1 : Int32))]) (rest := []) (lenOf pd1 rfl) rfl (by show 2 * 0 + _ ≤ _; exact Nat.le_of_eq rfl) (hb hby at_37) (fun _ _ => ⟨rfl, e108, (by decide : 0 + 0 ≤ _), (by decide : 0 + 0 ≤ _)⟩)
      dsimp only [Pt.U, Pt.locs, Pt.cells, Pt.slots] at X109 l109 y109 z109 st109 hQ109
      subst l109 y109 z109
      obtain ⟨rfl, Nq109, e109⟩ := hQ109
      have N109 := Fr.app N108 Nq109
      refine Goes.by st109 ?_
      refine Goes.by (fun _ kz => XS.iloadN X109.here hx rfl (hb hby at_40) rfl kz) ?_
      obtain ⟨_, _, ⟨T110, L110, k110, n110⟩, -, X110, ⟨Lc110, hQ110, l110, y110, z110⟩, st110⟩ := Jvm.LawKit.callS X109 hx (y := (⟨"com/example/nextkey/nextkey/lock/LockKindCoversPinLaw", "parts", "(I)I"⟩ : MethodName)) hown (mvT hZ (hw _ (List.mem_of_getElem? (i := 10) rfl))) (mvT hZ (hw _ (List.mem_of_getElem? (i := 11) rfl))) (mvT hZ (hw _ (List.mem_of_getElem? (i := 3) rfl))) (mvT hZ (hw _ (List.mem_of_getElem? (i := 12) rfl))) (by decide) (backOf (W := 1) (r2_10 l Z a0 hw [] h0 n0 Z0 w P) hZ (hw _ (List.mem_of_getElem? (i := 12) rfl)) (hw _ (List.mem_of_getElem? (i := 3) rfl)) (by decide) (by decide)) (g := (mkF m 41 #[.val (.int p1), .val (.int p2), .val (.int (3 : Int32)), .val (.int (1 : Int32)), .val (.ref (w 1)), .val (.ref (w 3)), .unset] [(.int (3 : Int32)), (.int (2 : Int32))])) rfl (by rw [hml]; rfl) (argsL := [(.int (3 : Int32))]) (rest := [(.int (2 : Int32))]) (lenOf pd1 rfl) rfl (by show 2 * 0 + _ ≤ _; exact Nat.le_of_eq rfl) (hb hby at_41) (fun _ _ => ⟨rfl, e109, (by decide : 0 + 0 ≤ _), (by decide : 0 + 0 ≤ _)⟩)
      dsimp only [Pt.U, Pt.locs, Pt.cells, Pt.slots] at X110 l110 y110 z110 st110 hQ110
      subst l110 y110 z110
      obtain ⟨rfl, Nq110, e110⟩ := hQ110
      have N110 := Fr.app N109 Nq110
      refine Goes.by st110 ?_
      refine Goes.by (fun _ kz => XS.iconst X110.here hx rfl (hb hby at_44) (XS.ixor X110.here hx rfl (hb hby at_45) rfl kz)) ?_
      show Goes p e below (T110.setTop (mkF m 46 #[.val (.int p1), .val (.int p2), .val (.int (3 : Int32)), .val (.int (1 : Int32)), .val (.ref (w 1)), .val (.ref (w 3)), .unset] [(.int ((6 : Int32) ^^^ (-1 : Int32))), (.int (2 : Int32))])) _
      rw [show (((6 : Int32) ^^^ (-1 : Int32)) : Int32) = (-7 : Int32) from by decide]
      show Goes p e below (T110.setTop (mkF m 46 #[.val (.int p1), .val (.int p2), .val (.int (3 : Int32)), .val (.int (1 : Int32)), .val (.ref (w 1)), .val (.ref (w 3)), .unset] [(.int (-7 : Int32)), (.int (2 : Int32))])) _
      refine Goes.by (fun _ kz => XS.iand X110.here hx rfl (hb hby at_46) rfl kz) ?_
      show Goes p e below (T110.setTop (mkF m 47 #[.val (.int p1), .val (.int p2), .val (.int (3 : Int32)), .val (.int (1 : Int32)), .val (.ref (w 1)), .val (.ref (w 3)), .unset] [(.int ((2 : Int32) &&& (-7 : Int32)))])) _
      rw [show (((2 : Int32) &&& (-7 : Int32)) : Int32) = (0 : Int32) from by decide]
      show Goes p e below (T110.setTop (mkF m 47 #[.val (.int p1), .val (.int p2), .val (.int (3 : Int32)), .val (.int (1 : Int32)), .val (.ref (w 1)), .val (.ref (w 3)), .unset] [(.int (0 : Int32))])) _
      refine Goes.by (fun _ kz => XS.ifNo X110.here hx rfl (hb hby at_47) rfl ((if0 _ _).trans (teq (by decide : (0 : Int32) = (0 : Int32))).2) (XS.iconst X110.here hx rfl (hb hby at_50) (XS.goto X110.here hx rfl (pc0 := 51) (pc' := 55) rfl (hb hby at_51) (by decide) (by decide) kz))) ?_
      show Goes p e below (T110.setTop (mkF m 55 #[.val (.int p1), .val (.int p2), .val (.int (3 : Int32)), .val (.int (1 : Int32)), .val (.ref (w 1)), .val (.ref (w 3)), .unset] [(.int (1 : Int32))])) _
      refine Goes.by (fun _ kz => XS.istore X110.here hx rfl (hb hby at_55) rfl (l' := #[.val (.int p1), .val (.int p2), .val (.int (3 : Int32)), .val (.int (1 : Int32)), .val (.ref (w 1)), .val (.ref (w 3)), .val (.int (1 : Int32))]) rfl (XS.aload X110.here hx rfl (hb hby at_57) rfl rfl (XS.aload X110.here hx rfl (hb hby at_59) rfl rfl kz))) ?_
      obtain ⟨cq114, kq114, q114a, q114b, q114c⟩ := isOf hZ e110 P.2.2.2.1
      obtain ⟨_, _, ⟨T114, L114, k114, n114⟩, -, X114, ⟨Lc114, hQ114, l114, y114, z114⟩, st114⟩ := X110.virtualBack hx (y := (⟨"com/example/nextkey/nextkey/lock/LockKind", "covers", "(Lcom/example/nextkey/nextkey/lock/LockKind;)Z"⟩ : MethodName)) (z := (⟨"com/example/nextkey/nextkey/lock/LockKind", "covers", "(Lcom/example/nextkey/nextkey/lock/LockKind;)Z"⟩ : MethodName)) hown (mvT hZ (hw _ (List.mem_of_getElem? (i := 13) rfl))) (mvT hZ (hw _ (List.mem_of_getElem? (i := 14) rfl))) (notFace_of_selects (args := #[]) (mvT hZ (hw _ (List.mem_of_getElem? (i := 16) rfl)))) (mvT hZ (hw _ (List.mem_of_getElem? (i := 16) rfl))) (mvT hZ (hw _ (List.mem_of_getElem? (i := 15) rfl))) (by decide) (backOf (W := 0) (r3_25 l Z a0 hw [] h0 n0 Z0 w P) hZ (hw _ (List.mem_of_getElem? (i := 17) rfl)) (hw _ (List.mem_of_getElem? (i := 6) rfl)) (by decide) (by decide)) q114a q114c (g := (mkF m 61 #[.val (.int p1), .val (.int p2), .val (.int (3 : Int32)), .val (.int (1 : Int32)), .val (.ref (w 1)), .val (.ref (w 3)), .val (.int (1 : Int32))] [(.ref (w 3)), (.ref (w 1))])) rfl (by rw [hml]; rfl) (Steps.refl _) (argsL := [(.ref (w 3))]) (rest := []) (lenOf pd2 rfl) rfl (by show 2 * 0 + _ ≤ _; exact Nat.le_of_eq rfl) (hb hby at_61) (fun _ _ => ⟨rfl, e110, (by decide : 0 + 0 ≤ _), (by decide : 0 + 0 ≤ _)⟩)
      dsimp only [Pt.U, Pt.locs, Pt.cells, Pt.slots] at X114 l114 y114 z114 st114 hQ114
      subst l114 y114 z114
      obtain ⟨rfl, Nq114, e114⟩ := hQ114
      have N114 := Fr.app N110 Nq114
      refine Goes.tr st114 ?_
      refine Goes.by (fun _ kz => XS.iload X114.here hx rfl (hb hby at_64) rfl (XS.icmpNo X114.here hx rfl (hb hby at_66) rfl (teq (by decide : (1 : Int32) = (1 : Int32))).2 (XS.iconst X114.here hx rfl (hb hby at_69) kz))) ?_
      show Goes p e below (T114.setTop (mkF m 70 #[.val (.int p1), .val (.int p2), .val (.int (3 : Int32)), .val (.int (1 : Int32)), .val (.ref (w 1)), .val (.ref (w 3)), .val (.int (1 : Int32))] [(.int (1 : Int32))])) _
      refine Goes.by (fun _ kz => XS.goto X114.here hx rfl (pc0 := 70) (pc' := 74) rfl (hb hby at_70) (by decide) (by decide) kz) ?_
      show Goes p e below (T114.setTop (mkF m 74 #[.val (.int p1), .val (.int p2), .val (.int (3 : Int32)), .val (.int (1 : Int32)), .val (.ref (w 1)), .val (.ref (w 3)), .val (.int (1 : Int32))] [(.int (1 : Int32))])) _
      obtain ⟨fs, hr, hrun, hended, hW, hsame⟩ := X114.leave (v := some (.int (1 : Int32))) (fun h => by rw [Bd.returns] at h; cases h)
      exact ⟨_, _, retN X114 hx (t := .boolean) Bd.returns (by simp) (hb hby at_74) hr, hrun, hended, _, _, rfl, ⟨rfl, N114⟩, ⟨_, rfl⟩, hW, hsame.mono (by decide) (by decide)⟩
    · show Goes p e below (s₁.setTop (mkF m 14 #[.val (.int p1), .val (.int p2), .val (.int (3 : Int32)), .val (.int (2 : Int32)), .unset, .unset, .unset] [])) _
      refine Goes.by (fun _ kz => XS.iloadN X0.here hx rfl (hb hby at_14) rfl kz) ?_
      obtain ⟨_, _, ⟨T115, L115, k115, n115⟩, -, X115, ⟨Lc115, hQ115, l115, y115, z115⟩, st115⟩ := Jvm.LawKit.callS X0 hx (y := (⟨"com/example/nextkey/nextkey/lock/LockKindCoversPinLaw", "kind", "(I)Lcom/example/nextkey/nextkey/lock/LockKind;"⟩ : MethodName)) hown (mvT hZ (hw _ (List.mem_of_getElem? (i := 1) rfl))) (mvT hZ (hw _ (List.mem_of_getElem? (i := 2) rfl))) (mvT hZ (hw _ (List.mem_of_getElem? (i := 3) rfl))) (mvT hZ (hw _ (List.mem_of_getElem? (i := 4) rfl))) (by decide) (backOf (W := 0) (r1_9 l Z a0 hw [] h0 n0 Z0 w P) hZ (hw _ (List.mem_of_getElem? (i := 4) rfl)) (hw _ (List.mem_of_getElem? (i := 3) rfl)) (by decide) (by decide)) (g := (mkF m 15 #[.val (.int p1), .val (.int p2), .val (.int (3 : Int32)), .val (.int (2 : Int32)), .unset, .unset, .unset] [(.int (3 : Int32))])) rfl (by rw [hml]; rfl) (argsL := [(.int (3 : Int32))]) (rest := []) (lenOf pd0 rfl) rfl (by show 2 * 0 + _ ≤ _; exact Nat.le_of_eq rfl) (hb hby at_15) (fun _ _ => ⟨rfl, e0, (by decide : 0 + 0 ≤ _), (by decide : 0 + 0 ≤ _)⟩)
      dsimp only [Pt.U, Pt.locs, Pt.cells, Pt.slots] at X115 l115 y115 z115 st115 hQ115
      subst l115 y115 z115
      obtain ⟨rfl, Nq115, e115⟩ := hQ115
      have N115 := Fr.app N0 Nq115
      refine Goes.by st115 ?_
      refine Goes.by (fun _ kz => XS.astore X115.here hx rfl (hb hby at_18) rfl rfl (l' := #[.val (.int p1), .val (.int p2), .val (.int (3 : Int32)), .val (.int (2 : Int32)), .val (.ref (w 1)), .unset, .unset]) rfl (XS.iloadN X115.here hx rfl (hb hby at_20) rfl kz)) ?_
      obtain ⟨_, _, ⟨T116, L116, k116, n116⟩, -, X116, ⟨Lc116, hQ116, l116, y116, z116⟩, st116⟩ := Jvm.LawKit.callS X115 hx (y := (⟨"com/example/nextkey/nextkey/lock/LockKindCoversPinLaw", "kind", "(I)Lcom/example/nextkey/nextkey/lock/LockKind;"⟩ : MethodName)) hown (mvT hZ (hw _ (List.mem_of_getElem? (i := 1) rfl))) (mvT hZ (hw _ (List.mem_of_getElem? (i := 2) rfl))) (mvT hZ (hw _ (List.mem_of_getElem? (i := 3) rfl))) (mvT hZ (hw _ (List.mem_of_getElem? (i := 4) rfl))) (by decide) (backOf (W := 0) (r1_6 l Z a0 hw [] h0 n0 Z0 w P) hZ (hw _ (List.mem_of_getElem? (i := 4) rfl)) (hw _ (List.mem_of_getElem? (i := 3) rfl)) (by decide) (by decide)) (g := (mkF m 21 #[.val (.int p1), .val (.int p2), .val (.int (3 : Int32)), .val (.int (2 : Int32)), .val (.ref (w 1)), .unset, .unset] [(.int (2 : Int32))])) rfl (by rw [hml]; rfl) (argsL := [(.int (2 : Int32))]) (rest := []) (lenOf pd0 rfl) rfl (by show 2 * 0 + _ ≤ _; exact Nat.le_of_eq rfl) (hb hby at_21) (fun _ _ => ⟨rfl, e115, (by decide : 0 + 0 ≤ _), (by decide : 0 + 0 ≤ _)⟩)
      dsimp only [Pt.U, Pt.locs, Pt.cells, Pt.slots] at X116 l116 y116 z116 st116 hQ116
      subst l116 y116 z116
      obtain ⟨rfl, Nq116, e116⟩ := hQ116
      have N116 := Fr.app N115 Nq116
      refine Goes.by st116 ?_
      refine Goes.by (fun _ kz => XS.astore X116.here hx rfl (hb hby at_24) rfl rfl (l' := #[.val (.int p1), .val (.int p2), .val (.int (3 : Int32)), .val (.int (2 : Int32)), .val (.ref (w 1)), .val (.ref (w 4)), .unset]) rfl (XS.iloadN X116.here hx rfl (hb hby at_26) rfl (XS.iconst X116.here hx rfl (hb hby at_27) kz))) ?_
      show Goes p e below (T116.setTop (mkF m 28 #[.val (.int p1), .val (.int p2), .val (.int (3 : Int32)), .val (.int (2 : Int32)), .val (.ref (w 1)), .val (.ref (w 4)), .unset] [(.int (4 : Int32)), (.int (3 : Int32))])) _
      refine Goes.by (fun _ kz => XS.icmpNo X116.here hx rfl (hb hby at_28) rfl (feq (by decide : ¬ ((3 : Int32) = (4 : Int32)))).1 (XS.iloadN X116.here hx rfl (hb hby at_31) rfl (XS.iconst X116.here hx rfl (hb hby at_32) kz))) ?_
      show Goes p e below (T116.setTop (mkF m 33 #[.val (.int p1), .val (.int p2), .val (.int (3 : Int32)), .val (.int (2 : Int32)), .val (.ref (w 1)), .val (.ref (w 4)), .unset] [(.int (4 : Int32)), (.int (2 : Int32))])) _
      refine Goes.by (fun _ kz => XS.icmpNo X116.here hx rfl (hb hby at_33) rfl (feq (by decide : ¬ ((2 : Int32) = (4 : Int32)))).1 (XS.iloadN X116.here hx rfl (hb hby at_36) rfl kz)) ?_
      obtain ⟨_, _, ⟨T117, L117, k117, n117⟩, -, X117, ⟨Lc117, hQ117, l117, y117, z117⟩, st117⟩ := Jvm.LawKit.callS X116 hx (y := (⟨"com/example/nextkey/nextkey/lock/LockKindCoversPinLaw", "parts", "(I)I"⟩ : MethodName)) hown (mvT hZ (hw _ (List.mem_of_getElem? (i := 10) rfl))) (mvT hZ (hw _ (List.mem_of_getElem? (i := 11) rfl))) (mvT hZ (hw _ (List.mem_of_getElem? (i := 3) rfl))) (mvT hZ (hw _ (List.mem_of_getElem? (i := 12) rfl))) (by decide) (backOf (W := 0) (r2_7 l Z a0 hw [] h0 n0 Z0 w P) hZ (hw _ (List.mem_of_getElem? (i := 12) rfl)) (hw _ (List.mem_of_getElem? (i := 3) rfl)) (by decide) (by decide)) (g := (mkF m 37 #[.val (.int p1), .val (.int p2), .val (.int (3 : Int32)), .val (.int (2 : Int32)), .val (.ref (w 1)), .val (.ref (w 4)), .unset] [(.int (2 : Int32))])) rfl (by rw [hml]; rfl) (argsL := [(.int (2 : Int32))]) (rest := []) (lenOf pd1 rfl) rfl (by show 2 * 0 + _ ≤ _; exact Nat.le_of_eq rfl) (hb hby at_37) (fun _ _ => ⟨rfl, e116, (by decide : 0 + 0 ≤ _), (by decide : 0 + 0 ≤ _)⟩)
      dsimp only [Pt.U, Pt.locs, Pt.cells, Pt.slots] at X117 l117 y117 z117 st117 hQ117
      subst l117 y117 z117
      obtain ⟨rfl, Nq117, e117⟩ := hQ117
      have N117 := Fr.app N116 Nq117
      refine Goes.by st117 ?_
      refine Goes.by (fun _ kz => XS.iloadN X117.here hx rfl (hb hby at_40) rfl kz) ?_
      obtain ⟨_, _, ⟨T118, L118, k118, n118⟩, -, X118, ⟨Lc118, hQ118, l118, y118, z118⟩, st118⟩ := Jvm.LawKit.callS X117 hx (y := (⟨"com/example/nextkey/nextkey/lock/LockKindCoversPinLaw", "parts", "(I)I"⟩ : MethodName)) hown (mvT hZ (hw _ (List.mem_of_getElem? (i := 10) rfl))) (mvT hZ (hw _ (List.mem_of_getElem? (i := 11) rfl))) (mvT hZ (hw _ (List.mem_of_getElem? (i := 3) rfl))) (mvT hZ (hw _ (List.mem_of_getElem? (i := 12) rfl))) (by decide) (backOf (W := 1) (r2_10 l Z a0 hw [] h0 n0 Z0 w P) hZ (hw _ (List.mem_of_getElem? (i := 12) rfl)) (hw _ (List.mem_of_getElem? (i := 3) rfl)) (by decide) (by decide)) (g := (mkF m 41 #[.val (.int p1), .val (.int p2), .val (.int (3 : Int32)), .val (.int (2 : Int32)), .val (.ref (w 1)), .val (.ref (w 4)), .unset] [(.int (3 : Int32)), (.int (4 : Int32))])) rfl (by rw [hml]; rfl) (argsL := [(.int (3 : Int32))]) (rest := [(.int (4 : Int32))]) (lenOf pd1 rfl) rfl (by show 2 * 0 + _ ≤ _; exact Nat.le_of_eq rfl) (hb hby at_41) (fun _ _ => ⟨rfl, e117, (by decide : 0 + 0 ≤ _), (by decide : 0 + 0 ≤ _)⟩)
      dsimp only [Pt.U, Pt.locs, Pt.cells, Pt.slots] at X118 l118 y118 z118 st118 hQ118
      subst l118 y118 z118
      obtain ⟨rfl, Nq118, e118⟩ := hQ118
      have N118 := Fr.app N117 Nq118
      refine Goes.by st118 ?_
      refine Goes.by (fun _ kz => XS.iconst X118.here hx rfl (hb hby at_44) (XS.ixor X118.here hx rfl (hb hby at_45) rfl kz)) ?_
      show Goes p e below (T118.setTop (mkF m 46 #[.val (.int p1), .val (.int p2), .val (.int (3 : Int32)), .val (.int (2 : Int32)), .val (.ref (w 1)), .val (.ref (w 4)), .unset] [(.int ((6 : Int32) ^^^ (-1 : Int32))), (.int (4 : Int32))])) _
      rw [show (((6 : Int32) ^^^ (-1 : Int32)) : Int32) = (-7 : Int32) from by decide]
      show Goes p e below (T118.setTop (mkF m 46 #[.val (.int p1), .val (.int p2), .val (.int (3 : Int32)), .val (.int (2 : Int32)), .val (.ref (w 1)), .val (.ref (w 4)), .unset] [(.int (-7 : Int32)), (.int (4 : Int32))])) _
      refine Goes.by (fun _ kz => XS.iand X118.here hx rfl (hb hby at_46) rfl kz) ?_
      show Goes p e below (T118.setTop (mkF m 47 #[.val (.int p1), .val (.int p2), .val (.int (3 : Int32)), .val (.int (2 : Int32)), .val (.ref (w 1)), .val (.ref (w 4)), .unset] [(.int ((4 : Int32) &&& (-7 : Int32)))])) _
      rw [show (((4 : Int32) &&& (-7 : Int32)) : Int32) = (0 : Int32) from by decide]
      show Goes p e below (T118.setTop (mkF m 47 #[.val (.int p1), .val (.int p2), .val (.int (3 : Int32)), .val (.int (2 : Int32)), .val (.ref (w 1)), .val (.ref (w 4)), .unset] [(.int (0 : Int32))])) _
      refine Goes.by (fun _ kz => XS.ifNo X118.here hx rfl (hb hby at_47) rfl ((if0 _ _).trans (teq (by decide : (0 : Int32) = (0 : Int32))).2) (XS.iconst X118.here hx rfl (hb hby at_50) (XS.goto X118.here hx rfl (pc0 := 51) (pc' := 55) rfl (hb hby at_51) (by decide) (by decide) kz))) ?_
      show Goes p e below (T118.setTop (mkF m 55 #[.val (.int p1), .val (.int p2), .val (.int (3 : Int32)), .val (.int (2 : Int32)), .val (.ref (w 1)), .val (.ref (w 4)), .unset] [(.int (1 : Int32))])) _
      refine Goes.by (fun _ kz => XS.istore X118.here hx rfl (hb hby at_55) rfl (l' := #[.val (.int p1), .val (.int p2), .val (.int (3 : Int32)), .val (.int (2 : Int32)), .val (.ref (w 1)), .val (.ref (w 4)), .val (.int (1 : Int32))]) rfl (XS.aload X118.here hx rfl (hb hby at_57) rfl rfl (XS.aload X118.here hx rfl (hb hby at_59) rfl rfl kz))) ?_
      obtain ⟨cq122, kq122, q122a, q122b, q122c⟩ := isOf hZ e118 P.2.2.2.1
      obtain ⟨_, _, ⟨T122, L122, k122, n122⟩, -, X122, ⟨Lc122, hQ122, l122, y122, z122⟩, st122⟩ := X118.virtualBack hx (y := (⟨"com/example/nextkey/nextkey/lock/LockKind", "covers", "(Lcom/example/nextkey/nextkey/lock/LockKind;)Z"⟩ : MethodName)) (z := (⟨"com/example/nextkey/nextkey/lock/LockKind", "covers", "(Lcom/example/nextkey/nextkey/lock/LockKind;)Z"⟩ : MethodName)) hown (mvT hZ (hw _ (List.mem_of_getElem? (i := 13) rfl))) (mvT hZ (hw _ (List.mem_of_getElem? (i := 14) rfl))) (notFace_of_selects (args := #[]) (mvT hZ (hw _ (List.mem_of_getElem? (i := 16) rfl)))) (mvT hZ (hw _ (List.mem_of_getElem? (i := 16) rfl))) (mvT hZ (hw _ (List.mem_of_getElem? (i := 15) rfl))) (by decide) (backOf (W := 0) (r3_26 l Z a0 hw [] h0 n0 Z0 w P) hZ (hw _ (List.mem_of_getElem? (i := 17) rfl)) (hw _ (List.mem_of_getElem? (i := 6) rfl)) (by decide) (by decide)) q122a q122c (g := (mkF m 61 #[.val (.int p1), .val (.int p2), .val (.int (3 : Int32)), .val (.int (2 : Int32)), .val (.ref (w 1)), .val (.ref (w 4)), .val (.int (1 : Int32))] [(.ref (w 4)), (.ref (w 1))])) rfl (by rw [hml]; rfl) (Steps.refl _) (argsL := [(.ref (w 4))]) (rest := []) (lenOf pd2 rfl) rfl (by show 2 * 0 + _ ≤ _; exact Nat.le_of_eq rfl) (hb hby at_61) (fun _ _ => ⟨rfl, e118, (by decide : 0 + 0 ≤ _), (by decide : 0 + 0 ≤ _)⟩)
      dsimp only [Pt.U, Pt.locs, Pt.cells, Pt.slots] at X122 l122 y122 z122 st122 hQ122
      subst l122 y122 z122
      obtain ⟨rfl, Nq122, e122⟩ := hQ122
      have N122 := Fr.app N118 Nq122
      refine Goes.tr st122 ?_
      refine Goes.by (fun _ kz => XS.iload X122.here hx rfl (hb hby at_64) rfl (XS.icmpNo X122.here hx rfl (hb hby at_66) rfl (teq (by decide : (1 : Int32) = (1 : Int32))).2 (XS.iconst X122.here hx rfl (hb hby at_69) kz))) ?_
      show Goes p e below (T122.setTop (mkF m 70 #[.val (.int p1), .val (.int p2), .val (.int (3 : Int32)), .val (.int (2 : Int32)), .val (.ref (w 1)), .val (.ref (w 4)), .val (.int (1 : Int32))] [(.int (1 : Int32))])) _
      refine Goes.by (fun _ kz => XS.goto X122.here hx rfl (pc0 := 70) (pc' := 74) rfl (hb hby at_70) (by decide) (by decide) kz) ?_
      show Goes p e below (T122.setTop (mkF m 74 #[.val (.int p1), .val (.int p2), .val (.int (3 : Int32)), .val (.int (2 : Int32)), .val (.ref (w 1)), .val (.ref (w 4)), .val (.int (1 : Int32))] [(.int (1 : Int32))])) _
      obtain ⟨fs, hr, hrun, hended, hW, hsame⟩ := X122.leave (v := some (.int (1 : Int32))) (fun h => by rw [Bd.returns] at h; cases h)
      exact ⟨_, _, retN X122 hx (t := .boolean) Bd.returns (by simp) (hb hby at_74) hr, hrun, hended, _, _, rfl, ⟨rfl, N122⟩, ⟨_, rfl⟩, hW, hsame.mono (by decide) (by decide)⟩
    · show Goes p e below (s₁.setTop (mkF m 14 #[.val (.int p1), .val (.int p2), .val (.int (3 : Int32)), .val (.int (3 : Int32)), .unset, .unset, .unset] [])) _
      refine Goes.by (fun _ kz => XS.iloadN X0.here hx rfl (hb hby at_14) rfl kz) ?_
      obtain ⟨_, _, ⟨T123, L123, k123, n123⟩, -, X123, ⟨Lc123, hQ123, l123, y123, z123⟩, st123⟩ := Jvm.LawKit.callS X0 hx (y := (⟨"com/example/nextkey/nextkey/lock/LockKindCoversPinLaw", "kind", "(I)Lcom/example/nextkey/nextkey/lock/LockKind;"⟩ : MethodName)) hown (mvT hZ (hw _ (List.mem_of_getElem? (i := 1) rfl))) (mvT hZ (hw _ (List.mem_of_getElem? (i := 2) rfl))) (mvT hZ (hw _ (List.mem_of_getElem? (i := 3) rfl))) (mvT hZ (hw _ (List.mem_of_getElem? (i := 4) rfl))) (by decide) (backOf (W := 0) (r1_9 l Z a0 hw [] h0 n0 Z0 w P) hZ (hw _ (List.mem_of_getElem? (i := 4) rfl)) (hw _ (List.mem_of_getElem? (i := 3) rfl)) (by decide) (by decide)) (g := (mkF m 15 #[.val (.int p1), .val (.int p2), .val (.int (3 : Int32)), .val (.int (3 : Int32)), .unset, .unset, .unset] [(.int (3 : Int32))])) rfl (by rw [hml]; rfl) (argsL := [(.int (3 : Int32))]) (rest := []) (lenOf pd0 rfl) rfl (by show 2 * 0 + _ ≤ _; exact Nat.le_of_eq rfl) (hb hby at_15) (fun _ _ => ⟨rfl, e0, (by decide : 0 + 0 ≤ _), (by decide : 0 + 0 ≤ _)⟩)
      dsimp only [Pt.U, Pt.locs, Pt.cells, Pt.slots] at X123 l123 y123 z123 st123 hQ123
      subst l123 y123 z123
      obtain ⟨rfl, Nq123, e123⟩ := hQ123
      have N123 := Fr.app N0 Nq123
      refine Goes.by st123 ?_
      refine Goes.by (fun _ kz => XS.astore X123.here hx rfl (hb hby at_18) rfl rfl (l' := #[.val (.int p1), .val (.int p2), .val (.int (3 : Int32)), .val (.int (3 : Int32)), .val (.ref (w 1)), .unset, .unset]) rfl (XS.iloadN X123.here hx rfl (hb hby at_20) rfl kz)) ?_
      obtain ⟨_, _, ⟨T124, L124, k124, n124⟩, -, X124, ⟨Lc124, hQ124, l124, y124, z124⟩, st124⟩ := Jvm.LawKit.callS X123 hx (y := (⟨"com/example/nextkey/nextkey/lock/LockKindCoversPinLaw", "kind", "(I)Lcom/example/nextkey/nextkey/lock/LockKind;"⟩ : MethodName)) hown (mvT hZ (hw _ (List.mem_of_getElem? (i := 1) rfl))) (mvT hZ (hw _ (List.mem_of_getElem? (i := 2) rfl))) (mvT hZ (hw _ (List.mem_of_getElem? (i := 3) rfl))) (mvT hZ (hw _ (List.mem_of_getElem? (i := 4) rfl))) (by decide) (backOf (W := 0) (r1_9 l Z a0 hw [] h0 n0 Z0 w P) hZ (hw _ (List.mem_of_getElem? (i := 4) rfl)) (hw _ (List.mem_of_getElem? (i := 3) rfl)) (by decide) (by decide)) (g := (mkF m 21 #[.val (.int p1), .val (.int p2), .val (.int (3 : Int32)), .val (.int (3 : Int32)), .val (.ref (w 1)), .unset, .unset] [(.int (3 : Int32))])) rfl (by rw [hml]; rfl) (argsL := [(.int (3 : Int32))]) (rest := []) (lenOf pd0 rfl) rfl (by show 2 * 0 + _ ≤ _; exact Nat.le_of_eq rfl) (hb hby at_21) (fun _ _ => ⟨rfl, e123, (by decide : 0 + 0 ≤ _), (by decide : 0 + 0 ≤ _)⟩)
      dsimp only [Pt.U, Pt.locs, Pt.cells, Pt.slots] at X124 l124 y124 z124 st124 hQ124
      subst l124 y124 z124
      obtain ⟨rfl, Nq124, e124⟩ := hQ124
      have N124 := Fr.app N123 Nq124
      refine Goes.by st124 ?_
      refine Goes.by (fun _ kz => XS.astore X124.here hx rfl (hb hby at_24) rfl rfl (l' := #[.val (.int p1), .val (.int p2), .val (.int (3 : Int32)), .val (.int (3 : Int32)), .val (.ref (w 1)), .val (.ref (w 1)), .unset]) rfl (XS.iloadN X124.here hx rfl (hb hby at_26) rfl (XS.iconst X124.here hx rfl (hb hby at_27) kz))) ?_
      show Goes p e below (T124.setTop (mkF m 28 #[.val (.int p1), .val (.int p2), .val (.int (3 : Int32)), .val (.int (3 : Int32)), .val (.ref (w 1)), .val (.ref (w 1)), .unset] [(.int (4 : Int32)), (.int (3 : Int32))])) _
      refine Goes.by (fun _ kz => XS.icmpNo X124.here hx rfl (hb hby at_28) rfl (feq (by decide : ¬ ((3 : Int32) = (4 : Int32)))).1 (XS.iloadN X124.here hx rfl (hb hby at_31) rfl (XS.iconst X124.here hx rfl (hb hby at_32) kz))) ?_
      show Goes p e below (T124.setTop (mkF m 33 #[.val (.int p1), .val (.int p2), .val (.int (3 : Int32)), .val (.int (3 : Int32)), .val (.ref (w 1)), .val (.ref (w 1)), .unset] [(.int (4 : Int32)), (.int (3 : Int32))])) _
      refine Goes.by (fun _ kz => XS.icmpNo X124.here hx rfl (hb hby at_33) rfl (feq (by decide : ¬ ((3 : Int32) = (4 : Int32)))).1 (XS.iloadN X124.here hx rfl (hb hby at_36) rfl kz)) ?_
      obtain ⟨_, _, ⟨T125, L125, k125, n125⟩, -, X125, ⟨Lc125, hQ125, l125, y125, z125⟩, st125⟩ := Jvm.LawKit.callS X124 hx (y := (⟨"com/example/nextkey/nextkey/lock/LockKindCoversPinLaw", "parts", "(I)I"⟩ : MethodName)) hown (mvT hZ (hw _ (List.mem_of_getElem? (i := 10) rfl))) (mvT hZ (hw _ (List.mem_of_getElem? (i := 11) rfl))) (mvT hZ (hw _ (List.mem_of_getElem? (i := 3) rfl))) (mvT hZ (hw _ (List.mem_of_getElem? (i := 12) rfl))) (by decide) (backOf (W := 0) (r2_10 l Z a0 hw [] h0 n0 Z0 w P) hZ (hw _ (List.mem_of_getElem? (i := 12) rfl)) (hw _ (List.mem_of_getElem? (i := 3) rfl)) (by decide) (by decide)) (g := (mkF m 37 #[.val (.int p1), .val (.int p2), .val (.int (3 : Int32)), .val (.int (3 : Int32)), .val (.ref (w 1)), .val (.ref (w 1)), .unset] [(.int (3 : Int32))])) rfl (by rw [hml]; rfl) (argsL := [(.int (3 : Int32))]) (rest := []) (lenOf pd1 rfl) rfl (by show 2 * 0 + _ ≤ _; exact Nat.le_of_eq rfl) (hb hby at_37) (fun _ _ => ⟨rfl, e124, (by decide : 0 + 0 ≤ _), (by decide : 0 + 0 ≤ _)⟩)
      dsimp only [Pt.U, Pt.locs, Pt.cells, Pt.slots] at X125 l125 y125 z125 st125 hQ125
      subst l125 y125 z125
      obtain ⟨rfl, Nq125, e125⟩ := hQ125
      have N125 := Fr.app N124 Nq125
      refine Goes.by st125 ?_
      refine Goes.by (fun _ kz => XS.iloadN X125.here hx rfl (hb hby at_40) rfl kz) ?_
      obtain ⟨_, _, ⟨T126, L126, k126, n126⟩, -, X126, ⟨Lc126, hQ126, l126, y126, z126⟩, st126⟩ := Jvm.LawKit.callS X125 hx (y := (⟨"com/example/nextkey/nextkey/lock/LockKindCoversPinLaw", "parts", "(I)I"⟩ : MethodName)) hown (mvT hZ (hw _ (List.mem_of_getElem? (i := 10) rfl))) (mvT hZ (hw _ (List.mem_of_getElem? (i := 11) rfl))) (mvT hZ (hw _ (List.mem_of_getElem? (i := 3) rfl))) (mvT hZ (hw _ (List.mem_of_getElem? (i := 12) rfl))) (by decide) (backOf (W := 1) (r2_10 l Z a0 hw [] h0 n0 Z0 w P) hZ (hw _ (List.mem_of_getElem? (i := 12) rfl)) (hw _ (List.mem_of_getElem? (i := 3) rfl)) (by decide) (by decide)) (g := (mkF m 41 #[.val (.int p1), .val (.int p2), .val (.int (3 : Int32)), .val (.int (3 : Int32)), .val (.ref (w 1)), .val (.ref (w 1)), .unset] [(.int (3 : Int32)), (.int (6 : Int32))])) rfl (by rw [hml]; rfl) (argsL := [(.int (3 : Int32))]) (rest := [(.int (6 : Int32))]) (lenOf pd1 rfl) rfl (by show 2 * 0 + _ ≤ _; exact Nat.le_of_eq rfl) (hb hby at_41) (fun _ _ => ⟨rfl, e125, (by decide : 0 + 0 ≤ _), (by decide : 0 + 0 ≤ _)⟩)
      dsimp only [Pt.U, Pt.locs, Pt.cells, Pt.slots] at X126 l126 y126 z126 st126 hQ126
      subst l126 y126 z126
      obtain ⟨rfl, Nq126, e126⟩ := hQ126
      have N126 := Fr.app N125 Nq126
      refine Goes.by st126 ?_
      refine Goes.by (fun _ kz => XS.iconst X126.here hx rfl (hb hby at_44) (XS.ixor X126.here hx rfl (hb hby at_45) rfl kz)) ?_
      show Goes p e below (T126.setTop (mkF m 46 #[.val (.int p1), .val (.int p2), .val (.int (3 : Int32)), .val (.int (3 : Int32)), .val (.ref (w 1)), .val (.ref (w 1)), .unset] [(.int ((6 : Int32) ^^^ (-1 : Int32))), (.int (6 : Int32))])) _
      rw [show (((6 : Int32) ^^^ (-1 : Int32)) : Int32) = (-7 : Int32) from by decide]
      show Goes p e below (T126.setTop (mkF m 46 #[.val (.int p1), .val (.int p2), .val (.int (3 : Int32)), .val (.int (3 : Int32)), .val (.ref (w 1)), .val (.ref (w 1)), .unset] [(.int (-7 : Int32)), (.int (6 : Int32))])) _
      refine Goes.by (fun _ kz => XS.iand X126.here hx rfl (hb hby at_46) rfl kz) ?_
      show Goes p e below (T126.setTop (mkF m 47 #[.val (.int p1), .val (.int p2), .val (.int (3 : Int32)), .val (.int (3 : Int32)), .val (.ref (w 1)), .val (.ref (w 1)), .unset] [(.int ((6 : Int32) &&& (-7 : Int32)))])) _
      rw [show (((6 : Int32) &&& (-7 : Int32)) : Int32) = (0 : Int32) from by decide]
      show Goes p e below (T126.setTop (mkF m 47 #[.val (.int p1), .val (.int p2), .val (.int (3 : Int32)), .val (.int (3 : Int32)), .val (.ref (w 1)), .val (.ref (w 1)), .unset] [(.int (0 : Int32))])) _
      refine Goes.by (fun _ kz => XS.ifNo X126.here hx rfl (hb hby at_47) rfl ((if0 _ _).trans (teq (by decide : (0 : Int32) = (0 : Int32))).2) (XS.iconst X126.here hx rfl (hb hby at_50) (XS.goto X126.here hx rfl (pc0 := 51) (pc' := 55) rfl (hb hby at_51) (by decide) (by decide) kz))) ?_
      show Goes p e below (T126.setTop (mkF m 55 #[.val (.int p1), .val (.int p2), .val (.int (3 : Int32)), .val (.int (3 : Int32)), .val (.ref (w 1)), .val (.ref (w 1)), .unset] [(.int (1 : Int32))])) _
      refine Goes.by (fun _ kz => XS.istore X126.here hx rfl (hb hby at_55) rfl (l' := #[.val (.int p1), .val (.int p2), .val (.int (3 : Int32)), .val (.int (3 : Int32)), .val (.ref (w 1)), .val (.ref (w 1)), .val (.int (1 : Int32))]) rfl (XS.aload X126.here hx rfl (hb hby at_57) rfl rfl (XS.aload X126.here hx rfl (hb hby at_59) rfl rfl kz))) ?_
      obtain ⟨cq128, kq128, q128a, q128b, q128c⟩ := isOf hZ e126 P.2.2.2.1
      obtain ⟨_, _, ⟨T128, L128, k128, n128⟩, -, X128, ⟨Lc128, hQ128, l128, y128, z128⟩, st128⟩ := X126.virtualBack hx (y := (⟨"com/example/nextkey/nextkey/lock/LockKind", "covers", "(Lcom/example/nextkey/nextkey/lock/LockKind;)Z"⟩ : MethodName)) (z := (⟨"com/example/nextkey/nextkey/lock/LockKind", "covers", "(Lcom/example/nextkey/nextkey/lock/LockKind;)Z"⟩ : MethodName)) hown (mvT hZ (hw _ (List.mem_of_getElem? (i := 13) rfl))) (mvT hZ (hw _ (List.mem_of_getElem? (i := 14) rfl))) (notFace_of_selects (args := #[]) (mvT hZ (hw _ (List.mem_of_getElem? (i := 16) rfl)))) (mvT hZ (hw _ (List.mem_of_getElem? (i := 16) rfl))) (mvT hZ (hw _ (List.mem_of_getElem? (i := 15) rfl))) (by decide) (backOf (W := 0) (r3_27 l Z a0 hw [] h0 n0 Z0 w P) hZ (hw _ (List.mem_of_getElem? (i := 17) rfl)) (hw _ (List.mem_of_getElem? (i := 6) rfl)) (by decide) (by decide)) q128a q128c (g := (mkF m 61 #[.val (.int p1), .val (.int p2), .val (.int (3 : Int32)), .val (.int (3 : Int32)), .val (.ref (w 1)), .val (.ref (w 1)), .val (.int (1 : Int32))] [(.ref (w 1)), (.ref (w 1))])) rfl (by rw [hml]; rfl) (Steps.refl _) (argsL := [(.ref (w 1))]) (rest := []) (lenOf pd2 rfl) rfl (by show 2 * 0 + _ ≤ _; exact Nat.le_of_eq rfl) (hb hby at_61) (fun _ _ => ⟨rfl, e126, (by decide : 0 + 0 ≤ _), (by decide : 0 + 0 ≤ _)⟩)
      dsimp only [Pt.U, Pt.locs, Pt.cells, Pt.slots] at X128 l128 y128 z128 st128 hQ128
      subst l128 y128 z128
      obtain ⟨rfl, Nq128, e128⟩ := hQ128
      have N128 := Fr.app N126 Nq128
      refine Goes.tr st128 ?_
      refine Goes.by (fun _ kz => XS.iload X128.here hx rfl (hb hby at_64) rfl (XS.icmpNo X128.here hx rfl (hb hby at_66) rfl (teq (by decide : (1 : Int32) = (1 : Int32))).2 (XS.iconst X128.here hx rfl (hb hby at_69) kz))) ?_
      show Goes p e below (T128.setTop (mkF m 70 #[.val (.int p1), .val (.int p2), .val (.int (3 : Int32)), .val (.int (3 : Int32)), .val (.ref (w 1)), .val (.ref (w 1)), .val (.int (1 : Int32))] [(.int (1 : Int32))])) _
      refine Goes.by (fun _ kz => XS.goto X128.here hx rfl (pc0 := 70) (pc' := 74) rfl (hb hby at_70) (by decide) (by decide) kz) ?_
      show Goes p e below (T128.setTop (mkF m 74 #[.val (.int p1), .val (.int p2), .val (.int (3 : Int32)), .val (.int (3 : Int32)), .val (.ref (w 1)), .val (.ref (w 1)), .val (.int (1 : Int32))] [(.int (1 : Int32))])) _
      obtain ⟨fs, hr, hrun, hended, hW, hsame⟩ := X128.leave (v := some (.int (1 : Int32))) (fun h => by rw [Bd.returns] at h; cases h)
      exact ⟨_, _, retN X128 hx (t := .boolean) Bd.returns (by simp) (hb hby at_74) hr, hrun, hended, _, _, rfl, ⟨rfl, N128⟩, ⟨_, rfl⟩, hW, hsame.mono (by decide) (by decide)⟩
    · show Goes p e below (s₁.setTop (mkF m 14 #[.val (.int p1), .val (.int p2), .val (.int (3 : Int32)), .val (.int (4 : Int32)), .unset, .unset, .unset] [])) _
      refine Goes.by (fun _ kz => XS.iloadN X0.here hx rfl (hb hby at_14) rfl kz) ?_
      obtain ⟨_, _, ⟨T129, L129, k129, n129⟩, -, X129, ⟨Lc129, hQ129, l129, y129, z129⟩, st129⟩ := Jvm.LawKit.callS X0 hx (y := (⟨"com/example/nextkey/nextkey/lock/LockKindCoversPinLaw", "kind", "(I)Lcom/example/nextkey/nextkey/lock/LockKind;"⟩ : MethodName)) hown (mvT hZ (hw _ (List.mem_of_getElem? (i := 1) rfl))) (mvT hZ (hw _ (List.mem_of_getElem? (i := 2) rfl))) (mvT hZ (hw _ (List.mem_of_getElem? (i := 3) rfl))) (mvT hZ (hw _ (List.mem_of_getElem? (i := 4) rfl))) (by decide) (backOf (W := 0) (r1_9 l Z a0 hw [] h0 n0 Z0 w P) hZ (hw _ (List.mem_of_getElem? (i := 4) rfl)) (hw _ (List.mem_of_getElem? (i := 3) rfl)) (by decide) (by decide)) (g := (mkF m 15 #[.val (.int p1), .val (.int p2), .val (.int (3 : Int32)), .val (.int (4 : Int32)), .unset, .unset, .unset] [(.int (3 : Int32))])) rfl (by rw [hml]; rfl) (argsL := [(.int (3 : Int32))]) (rest := []) (lenOf pd0 rfl) rfl (by show 2 * 0 + _ ≤ _; exact Nat.le_of_eq rfl) (hb hby at_15) (fun _ _ => ⟨rfl, e0, (by decide : 0 + 0 ≤ _), (by decide : 0 + 0 ≤ _)⟩)
      dsimp only [Pt.U, Pt.locs, Pt.cells, Pt.slots] at X129 l129 y129 z129 st129 hQ129
      subst l129 y129 z129
      obtain ⟨rfl, Nq129, e129⟩ := hQ129
      have N129 := Fr.app N0 Nq129
      refine Goes.by st129 ?_
      refine Goes.by (fun _ kz => XS.astore X129.here hx rfl (hb hby at_18) rfl rfl (l' := #[.val (.int p1), .val (.int p2), .val (.int (3 : Int32)), .val (.int (4 : Int32)), .val (.ref (w 1)), .unset, .unset]) rfl (XS.iloadN X129.here hx rfl (hb hby at_20) rfl kz)) ?_
      obtain ⟨_, _, ⟨T130, L130, k130, n130⟩, -, X130, ⟨Lc130, hQ130, l130, y130, z130⟩, st130⟩ := Jvm.LawKit.callS X129 hx (y := (⟨"com/example/nextkey/nextkey/lock/LockKindCoversPinLaw", "kind", "(I)Lcom/example/nextkey/nextkey/lock/LockKind;"⟩ : MethodName)) hown (mvT hZ (hw _ (List.mem_of_getElem? (i := 1) rfl))) (mvT hZ (hw _ (List.mem_of_getElem? (i := 2) rfl))) (mvT hZ (hw _ (List.mem_of_getElem? (i := 3) rfl))) (mvT hZ (hw _ (List.mem_of_getElem? (i := 4) rfl))) (by decide) (backOf (W := 0) (r1_12 l Z a0 hw [] h0 n0 Z0 w P) hZ (hw _ (List.mem_of_getElem? (i := 4) rfl)) (hw _ (List.mem_of_getElem? (i := 3) rfl)) (by decide) (by decide)) (g := (mkF m 21 #[.val (.int p1), .val (.int p2), .val (.int (3 : Int32)), .val (.int (4 : Int32)), .val (.ref (w 1)), .unset, .unset] [(.int (4 : Int32))])) rfl (by rw [hml]; rfl) (argsL := [(.int (4 : Int32))]) (rest := []) (lenOf pd0 rfl) rfl (by show 2 * 0 + _ ≤ _; exact Nat.le_of_eq rfl) (hb hby at_21) (fun _ _ => ⟨rfl, e129, (by decide : 0 + 0 ≤ _), (by decide : 0 + 0 ≤ _)⟩)
      dsimp only [Pt.U, Pt.locs, Pt.cells, Pt.slots] at X130 l130 y130 z130 st130 hQ130
      subst l130 y130 z130
      obtain ⟨rfl, Nq130, e130⟩ := hQ130
      have N130 := Fr.app N129 Nq130
      refine Goes.by st130 ?_
      refine Goes.by (fun _ kz => XS.astore X130.here hx rfl (hb hby at_24) rfl rfl (l' := #[.val (.int p1), .val (.int p2), .val (.int (3 : Int32)), .val (.int (4 : Int32)), .val (.ref (w 1)), .val (.ref (w 2)), .unset]) rfl (XS.iloadN X130.here hx rfl (hb hby at_26) rfl (XS.iconst X130.here hx rfl (hb hby at_27) kz))) ?_
      show Goes p e below (T130.setTop (mkF m 28 #[.val (.int p1), .val (.int p2), .val (.int (3 : Int32)), .val (.int (4 : Int32)), .val (.ref (w 1)), .val (.ref (w 2)), .unset] [(.int (4 : Int32)), (.int (3 : Int32))])) _
      refine Goes.by (fun _ kz => XS.icmpNo X130.here hx rfl (hb hby at_28) rfl (feq (by decide : ¬ ((3 : Int32) = (4 : Int32)))).1 (XS.iloadN X130.here hx rfl (hb hby at_31) rfl (XS.iconst X130.here hx rfl (hb hby at_32) kz))) ?_
      show Goes p e below (T130.setTop (mkF m 33 #[.val (.int p1), .val (.int p2), .val (.int (3 : Int32)), .val (.int (4 : Int32)), .val (.ref (w 1)), .val (.ref (w 2)), .unset] [(.int (4 : Int32)), (.int (4 : Int32))])) _
      refine Goes.by (fun _ kz => XS.icmpYes X130.here hx rfl (pc0 := 33) (pc' := 54) rfl (hb hby at_33) rfl (teq (by decide : (4 : Int32) = (4 : Int32))).1 (by decide) (by decide) (XS.iconst X130.here hx rfl (hb hby at_54) (XS.istore X130.here hx rfl (hb hby at_55) rfl (l' := #[.val (.int p1), .val (.int p2), .val (.int (3 : Int32)), .val (.int (4 : Int32)), .val (.ref (w 1)), .val (.ref (w 2)), .val (.int (0 : Int32))]) rfl kz))) ?_
      show Goes p e below (T130.setTop (mkF m 57 #[.val (.int p1), .val (.int p2), .val (.int (3 : Int32)), .val (.int (4 : Int32)), .val (.ref (w 1)), .val (.ref (w 2)), .val (.int (0 : Int32))] [])) _
      refine Goes.by (fun _ kz => XS.aload X130.here hx rfl (hb hby at_57) rfl rfl (XS.aload X130.here hx rfl (hb hby at_59) rfl rfl kz)) ?_
      obtain ⟨cq132, kq132, q132a, q132b, q132c⟩ := isOf hZ e130 P.2.2.2.1
      obtain ⟨_, _, ⟨T132, L132, k132, n132⟩, -, X132, ⟨Lc132, hQ132, l132, y132, z132⟩, st132⟩ := X130.virtualBack hx (y := (⟨"com/example/nextkey/nextkey/lock/LockKind", "covers", "(Lcom/example/nextkey/nextkey/lock/LockKind;)Z"⟩ : MethodName)) (z := (⟨"com/example/nextkey/nextkey/lock/LockKind", "covers", "(Lcom/example/nextkey/nextkey/lock/LockKind;)Z"⟩ : MethodName)) hown (mvT hZ (hw _ (List.mem_of_getElem? (i := 13) rfl))) (mvT hZ (hw _ (List.mem_of_getElem? (i := 14) rfl))) (notFace_of_selects (args := #[]) (mvT hZ (hw _ (List.mem_of_getElem? (i := 16) rfl)))) (mvT hZ (hw _ (List.mem_of_getElem? (i := 16) rfl))) (mvT hZ (hw _ (List.mem_of_getElem? (i := 15) rfl))) (by decide) (backOf (W := 0) (r3_28 l Z a0 hw [] h0 n0 Z0 w P) hZ (hw _ (List.mem_of_getElem? (i := 17) rfl)) (hw _ (List.mem_of_getElem? (i := 6) rfl)) (by decide) (by decide)) q132a q132c (g := (mkF m 61 #[.val (.int p1), .val (.int p2), .val (.int (3 : Int32)), .val (.int (4 : Int32)), .val (.ref (w 1)), .val (.ref (w 2)), .val (.int (0 : Int32))] [(.ref (w 2)), (.ref (w 1))])) rfl (by rw [hml]; rfl) (Steps.refl _) (argsL := [(.ref (w 2))]) (rest := []) (lenOf pd2 rfl) rfl (by show 2 * 0 + _ ≤ _; exact Nat.le_of_eq rfl) (hb hby at_61) (fun _ _ => ⟨rfl, e130, (by decide : 0 + 0 ≤ _), (by decide : 0 + 0 ≤ _)⟩)
      dsimp only [Pt.U, Pt.locs, Pt.cells, Pt.slots] at X132 l132 y132 z132 st132 hQ132
      subst l132 y132 z132
      obtain ⟨rfl, Nq132, e132⟩ := hQ132
      have N132 := Fr.app N130 Nq132
      refine Goes.tr st132 ?_
      refine Goes.by (fun _ kz => XS.iload X132.here hx rfl (hb hby at_64) rfl (XS.icmpNo X132.here hx rfl (hb hby at_66) rfl (teq (by decide : (0 : Int32) = (0 : Int32))).2 (XS.iconst X132.here hx rfl (hb hby at_69) kz))) ?_
      show Goes p e below (T132.setTop (mkF m 70 #[.val (.int p1), .val (.int p2), .val (.int (3 : Int32)), .val (.int (4 : Int32)), .val (.ref (w 1)), .val (.ref (w 2)), .val (.int (0 : Int32))] [(.int (1 : Int32))])) _
      refine Goes.by (fun _ kz => XS.goto X132.here hx rfl (pc0 := 70) (pc' := 74) rfl (hb hby at_70) (by decide) (by decide) kz) ?_
      show Goes p e below (T132.setTop (mkF m 74 #[.val (.int p1), .val (.int p2), .val (.int (3 : Int32)), .val (.int (4 : Int32)), .val (.ref (w 1)), .val (.ref (w 2)), .val (.int (0 : Int32))] [(.int (1 : Int32))])) _
      obtain ⟨fs, hr, hrun, hended, hW, hsame⟩ := X132.leave (v := some (.int (1 : Int32))) (fun h => by rw [Bd.returns] at h; cases h)
      exact ⟨_, _, retN X132 hx (t := .boolean) Bd.returns (by simp) (hb hby at_74) hr, hrun, hended, _, _, rfl, ⟨rfl, N132⟩, ⟨_, rfl⟩, hW, hsame.mono (by decide) (by decide)⟩
  · show Goes p e below (s₁.setTop (mkF m 7 #[.val (.int p1), .val (.int p2), .val (.int (4 : Int32)), .unset, .unset, .unset, .unset] [])) _
    refine Goes.by (fun _ kz => XS.iloadN X0.here hx rfl (hb hby at_7) rfl (X0.ldcInt hx hown (mvT hZ (hw _ (List.mem_of_getElem? (i := 0) rfl))) (g := (mkF m 8 #[.val (.int p1), .val (.int p2), .val (.int (4 : Int32)), .unset, .unset, .unset, .unset] [(.int p2)])) rfl (hb hby at_8) _ (XS.iand X0.here hx rfl (hb hby at_10) rfl kz))) ?_
    show Goes p e below (s₁.setTop (mkF m 11 #[.val (.int p1), .val (.int p2), .val (.int (4 : Int32)), .unset, .unset, .unset, .unset] [(.int (p2 &&& (2147483647 : Int32)))])) _
    refine Goes.by (fun _ kz => XS.iconst X0.here hx rfl (hb hby at_11) (iremM X0 hx rfl (hb hby at_12) rfl (by decide) (XS.istoreN X0.here hx rfl (hb hby at_13) rfl (l' := #[.val (.int p1), .val (.int p2), .val (.int (4 : Int32)), .val (.int ((p2 &&& (2147483647 : Int32)) % (5 : Int32))), .unset, .unset, .unset]) rfl kz))) ?_
    show Goes p e below (s₁.setTop (mkF m 14 #[.val (.int p1), .val (.int p2), .val (.int (4 : Int32)), .val (.int ((p2 &&& (2147483647 : Int32)) % (5 : Int32))), .unset, .unset, .unset] [])) _
    have hsj := own_split p2
    obtain ⟨j, hj⟩ : ∃ z, z = ((p2 &&& (2147483647 : Int32)) % (5 : Int32)) := ⟨_, rfl⟩
    rw [← hj] at hsj ⊢
    rcases hsj with rfl | rfl | rfl | rfl | rfl
    · show Goes p e below (s₁.setTop (mkF m 14 #[.val (.int p1), .val (.int p2), .val (.int (4 : Int32)), .val (.int (0 : Int32)), .unset, .unset, .unset] [])) _
      refine Goes.by (fun _ kz => XS.iloadN X0.here hx rfl (hb hby at_14) rfl kz) ?_
      obtain ⟨_, _, ⟨T133, L133, k133, n133⟩, -, X133, ⟨Lc133, hQ133, l133, y133, z133⟩, st133⟩ := Jvm.LawKit.callS X0 hx (y := (⟨"com/example/nextkey/nextkey/lock/LockKindCoversPinLaw", "kind", "(I)Lcom/example/nextkey/nextkey/lock/LockKind;"⟩ : MethodName)) hown (mvT hZ (hw _ (List.mem_of_getElem? (i := 1) rfl))) (mvT hZ (hw _ (List.mem_of_getElem? (i := 2) rfl))) (mvT hZ (hw _ (List.mem_of_getElem? (i := 3) rfl))) (mvT hZ (hw _ (List.mem_of_getElem? (i := 4) rfl))) (by decide) (backOf (W := 0) (r1_12 l Z a0 hw [] h0 n0 Z0 w P) hZ (hw _ (List.mem_of_getElem? (i := 4) rfl)) (hw _ (List.mem_of_getElem? (i := 3) rfl)) (by decide) (by decide)) (g := (mkF m 15 #[.val (.int p1), .val (.int p2), .val (.int (4 : Int32)), .val (.int (0 : Int32)), .unset, .unset, .unset] [(.int (4 : Int32))])) rfl (by rw [hml]; rfl) (argsL := [(.int (4 : Int32))]) (rest := []) (lenOf pd0 rfl) rfl (by show 2 * 0 + _ ≤ _; exact Nat.le_of_eq rfl) (hb hby at_15) (fun _ _ => ⟨rfl, e0, (by decide : 0 + 0 ≤ _), (by decide : 0 + 0 ≤ _)⟩)
      dsimp only [Pt.U, Pt.locs, Pt.cells, Pt.slots] at X133 l133 y133 z133 st133 hQ133
      subst l133 y133 z133
      obtain ⟨rfl, Nq133, e133⟩ := hQ133
      have N133 := Fr.app N0 Nq133
      refine Goes.by st133 ?_
      refine Goes.by (fun _ kz => XS.astore X133.here hx rfl (hb hby at_18) rfl rfl (l' := #[.val (.int p1), .val (.int p2), .val (.int (4 : Int32)), .val (.int (0 : Int32)), .val (.ref (w 2)), .unset, .unset]) rfl (XS.iloadN X133.here hx rfl (hb hby at_20) rfl kz)) ?_
      obtain ⟨_, _, ⟨T134, L134, k134, n134⟩, -, X134, ⟨Lc134, hQ134, l134, y134, z134⟩, st134⟩ := Jvm.LawKit.callS X133 hx (y := (⟨"com/example/nextkey/nextkey/lock/LockKindCoversPinLaw", "kind", "(I)Lcom/example/nextkey/nextkey/lock/LockKind;"⟩ : MethodName)) hown (mvT hZ (hw _ (List.mem_of_getElem? (i := 1) rfl))) (mvT hZ (hw _ (List.mem_of_getElem? (i := 2) rfl))) (mvT hZ (hw _ (List.mem_of_getElem? (i := 3) rfl))) (mvT hZ (hw _ (List.mem_of_getElem? (i := 4) rfl))) (by decide) (backOf (W := 0) (r1_0 l Z a0 hw [] h0 n0 Z0 w P) hZ (hw _ (List.mem_of_getElem? (i := 4) rfl)) (hw _ (List.mem_of_getElem? (i := 3) rfl)) (by decide) (by decide)) (g := (mkF m 21 #[.val (.int p1), .val (.int p2), .val (.int (4 : Int32)), .val (.int (0 : Int32)), .val (.ref (w 2)), .unset, .unset] [(.int (0 : Int32))])) rfl (by rw [hml]; rfl) (argsL := [(.int (0 : Int32))]) (rest := []) (lenOf pd0 rfl) rfl (by show 2 * 0 + _ ≤ _; exact Nat.le_of_eq rfl) (hb hby at_21) (fun _ _ => ⟨rfl, e133, (by decide : 0 + 0 ≤ _), (by decide : 0 + 0 ≤ _)⟩)
      dsimp only [Pt.U, Pt.locs, Pt.cells, Pt.slots] at X134 l134 y134 z134 st134 hQ134
      subst l134 y134 z134
      obtain ⟨rfl, Nq134, e134⟩ := hQ134
      have N134 := Fr.app N133 Nq134
      refine Goes.by st134 ?_
      refine Goes.by (fun _ kz => XS.astore X134.here hx rfl (hb hby at_24) rfl rfl (l' := #[.val (.int p1), .val (.int p2), .val (.int (4 : Int32)), .val (.int (0 : Int32)), .val (.ref (w 2)), .val (.ref (w 0)), .unset]) rfl (XS.iloadN X134.here hx rfl (hb hby at_26) rfl (XS.iconst X134.here hx rfl (hb hby at_27) kz))) ?_
      show Goes p e below (T134.setTop (mkF m 28 #[.val (.int p1), .val (.int p2), .val (.int (4 : Int32)), .val (.int (0 : Int32)), .val (.ref (w 2)), .val (.ref (w 0)), .unset] [(.int (4 : Int32)), (.int (4 : Int32))])) _
      refine Goes.by (fun _ kz => XS.icmpYes X134.here hx rfl (pc0 := 28) (pc' := 54) rfl (hb hby at_28) rfl (teq (by decide : (4 : Int32) = (4 : Int32))).1 (by decide) (by decide) (XS.iconst X134.here hx rfl (hb hby at_54) (XS.istore X134.here hx rfl (hb hby at_55) rfl (l' := #[.val (.int p1), .val (.int p2), .val (.int (4 : Int32)), .val (.int (0 : Int32)), .val (.ref (w 2)), .val (.ref (w 0)), .val (.int (0 : Int32))]) rfl kz))) ?_
      show Goes p e below (T134.setTop (mkF m 57 #[.val (.int p1), .val (.int p2), .val (.int (4 : Int32)), .val (.int (0 : Int32)), .val (.ref (w 2)), .val (.ref (w 0)), .val (.int (0 : Int32))] [])) _
      refine Goes.by (fun _ kz => XS.aload X134.here hx rfl (hb hby at_57) rfl rfl (XS.aload X134.here hx rfl (hb hby at_59) rfl rfl kz)) ?_
      obtain ⟨cq137, kq137, q137a, q137b, q137c⟩ := isOf hZ e134 P.2.2.2.2.2.1
      obtain ⟨_, _, ⟨T137, L137, k137, n137⟩, -, X137, ⟨Lc137, hQ137, l137, y137, z137⟩, st137⟩ := X134.virtualBack hx (y := (⟨"com/example/nextkey/nextkey/lock/LockKind", "covers", "(Lcom/example/nextkey/nextkey/lock/LockKind;)Z"⟩ : MethodName)) (z := (⟨"com/example/nextkey/nextkey/lock/LockKind", "covers", "(Lcom/example/nextkey/nextkey/lock/LockKind;)Z"⟩ : MethodName)) hown (mvT hZ (hw _ (List.mem_of_getElem? (i := 13) rfl))) (mvT hZ (hw _ (List.mem_of_getElem? (i := 14) rfl))) (notFace_of_selects (args := #[]) (mvT hZ (hw _ (List.mem_of_getElem? (i := 16) rfl)))) (mvT hZ (hw _ (List.mem_of_getElem? (i := 16) rfl))) (mvT hZ (hw _ (List.mem_of_getElem? (i := 15) rfl))) (by decide) (backOf (W := 0) (r3_29 l Z a0 hw [] h0 n0 Z0 w P) hZ (hw _ (List.mem_of_getElem? (i := 17) rfl)) (hw _ (List.mem_of_getElem? (i := 6) rfl)) (by decide) (by decide)) q137a q137c (g := (mkF m 61 #[.val (.int p1), .val (.int p2), .val (.int (4 : Int32)), .val (.int (0 : Int32)), .val (.ref (w 2)), .val (.ref (w 0)), .val (.int (0 : Int32))] [(.ref (w 0)), (.ref (w 2))])) rfl (by rw [hml]; rfl) (Steps.refl _) (argsL := [(.ref (w 0))]) (rest := []) (lenOf pd2 rfl) rfl (by show 2 * 0 + _ ≤ _; exact Nat.le_of_eq rfl) (hb hby at_61) (fun _ _ => ⟨rfl, e134, (by decide : 0 + 0 ≤ _), (by decide : 0 + 0 ≤ _)⟩)
      dsimp only [Pt.U, Pt.locs, Pt.cells, Pt.slots] at X137 l137 y137 z137 st137 hQ137
      subst l137 y137 z137
      obtain ⟨rfl, Nq137, e137⟩ := hQ137
      have N137 := Fr.app N134 Nq137
      refine Goes.tr st137 ?_
      refine Goes.by (fun _ kz => XS.iload X137.here hx rfl (hb hby at_64) rfl (XS.icmpNo X137.here hx rfl (hb hby at_66) rfl (teq (by decide : (0 : Int32) = (0 : Int32))).2 (XS.iconst X137.here hx rfl (hb hby at_69) kz))) ?_
      show Goes p e below (T137.setTop (mkF m 70 #[.val (.int p1), .val (.int p2), .val (.int (4 : Int32)), .val (.int (0 : Int32)), .val (.ref (w 2)), .val (.ref (w 0)), .val (.int (0 : Int32))] [(.int (1 : Int32))])) _
      refine Goes.by (fun _ kz => XS.goto X137.here hx rfl (pc0 := 70) (pc' := 74) rfl (hb hby at_70) (by decide) (by decide) kz) ?_
      show Goes p e below (T137.setTop (mkF m 74 #[.val (.int p1), .val (.int p2), .val (.int (4 : Int32)), .val (.int (0 : Int32)), .val (.ref (w 2)), .val (.ref (w 0)), .val (.int (0 : Int32))] [(.int (1 : Int32))])) _
      obtain ⟨fs, hr, hrun, hended, hW, hsame⟩ := X137.leave (v := some (.int (1 : Int32))) (fun h => by rw [Bd.returns] at h; cases h)
      exact ⟨_, _, retN X137 hx (t := .boolean) Bd.returns (by simp) (hb hby at_74) hr, hrun, hended, _, _, rfl, ⟨rfl, N137⟩, ⟨_, rfl⟩, hW, hsame.mono (by decide) (by decide)⟩
    · show Goes p e below (s₁.setTop (mkF m 14 #[.val (.int p1), .val (.int p2), .val (.int (4 : Int32)), .val (.int (1 : Int32)), .unset, .unset, .unset] [])) _
      refine Goes.by (fun _ kz => XS.iloadN X0.here hx rfl (hb hby at_14) rfl kz) ?_
      obtain ⟨_, _, ⟨T138, L138, k138, n138⟩, -, X138, ⟨Lc138, hQ138, l138, y138, z138⟩, st138⟩ := Jvm.LawKit.callS X0 hx (y := (⟨"com/example/nextkey/nextkey/lock/LockKindCoversPinLaw", "kind", "(I)Lcom/example/nextkey/nextkey/lock/LockKind;"⟩ : MethodName)) hown (mvT hZ (hw _ (List.mem_of_getElem? (i := 1) rfl))) (mvT hZ (hw _ (List.mem_of_getElem? (i := 2) rfl))) (mvT hZ (hw _ (List.mem_of_getElem? (i := 3) rfl))) (mvT hZ (hw _ (List.mem_of_getElem? (i := 4) rfl))) (by decide) (backOf (W := 0) (r1_12 l Z a0 hw [] h0 n0 Z0 w P) hZ (hw _ (List.mem_of_getElem? (i := 4) rfl)) (hw _ (List.mem_of_getElem? (i := 3) rfl)) (by decide) (by decide)) (g := (mkF m 15 #[.val (.int p1), .val (.int p2), .val (.int (4 : Int32)), .val (.int (1 : Int32)), .unset, .unset, .unset] [(.int (4 : Int32))])) rfl (by rw [hml]; rfl) (argsL := [(.int (4 : Int32))]) (rest := []) (lenOf pd0 rfl) rfl (by show 2 * 0 + _ ≤ _; exact Nat.le_of_eq rfl) (hb hby at_15) (fun _ _ => ⟨rfl, e0, (by decide : 0 + 0 ≤ _), (by decide : 0 + 0 ≤ _)⟩)
      dsimp only [Pt.U, Pt.locs, Pt.cells, Pt.slots] at X138 l138 y138 z138 st138 hQ138
      subst l138 y138 z138
      obtain ⟨rfl, Nq138, e138⟩ := hQ138
      have N138 := Fr.app N0 Nq138
      refine Goes.by st138 ?_
      refine Goes.by (fun _ kz => XS.astore X138.here hx rfl (hb hby at_18) rfl rfl (l' := #[.val (.int p1), .val (.int p2), .val (.int (4 : Int32)), .val (.int (1 : Int32)), .val (.ref (w 2)), .unset, .unset]) rfl (XS.iloadN X138.here hx rfl (hb hby at_20) rfl kz)) ?_
      obtain ⟨_, _, ⟨T139, L139, k139, n139⟩, -, X139, ⟨Lc139, hQ139, l139, y139, z139⟩, st139⟩ := Jvm.LawKit.callS X138 hx (y := (⟨"com/example/nextkey/nextkey/lock/LockKindCoversPinLaw", "kind", "(I)Lcom/example/nextkey/nextkey/lock/LockKind;"⟩ : MethodName)) hown (mvT hZ (hw _ (List.mem_of_getElem? (i := 1) rfl))) (mvT hZ (hw _ (List.mem_of_getElem? (i := 2) rfl))) (mvT hZ (hw _ (List.mem_of_getElem? (i := 3) rfl))) (mvT hZ (hw _ (List.mem_of_getElem? (i := 4) rfl))) (by decide) (backOf (W := 0) (r1_3 l Z a0 hw [] h0 n0 Z0 w P) hZ (hw _ (List.mem_of_getElem? (i := 4) rfl)) (hw _ (List.mem_of_getElem? (i := 3) rfl)) (by decide) (by decide)) (g := (mkF m 21 #[.val (.int p1), .val (.int p2), .val (.int (4 : Int32)), .val (.int (1 : Int32)), .val (.ref (w 2)), .unset, .unset] [(.int (1 : Int32))])) rfl (by rw [hml]; rfl) (argsL := [(.int (1 : Int32))]) (rest := []) (lenOf pd0 rfl) rfl (by show 2 * 0 + _ ≤ _; exact Nat.le_of_eq rfl) (hb hby at_21) (fun _ _ => ⟨rfl, e138, (by decide : 0 + 0 ≤ _), (by decide : 0 + 0 ≤ _)⟩)
      dsimp only [Pt.U, Pt.locs, Pt.cells, Pt.slots] at X139 l139 y139 z139 st139 hQ139
      subst l139 y139 z139
      obtain ⟨rfl, Nq139, e139⟩ := hQ139
      have N139 := Fr.app N138 Nq139
      refine Goes.by st139 ?_
      refine Goes.by (fun _ kz => XS.astore X139.here hx rfl (hb hby at_24) rfl rfl (l' := #[.val (.int p1), .val (.int p2), .val (.int (4 : Int32)), .val (.int (1 : Int32)), .val (.ref (w 2)), .val (.ref (w 3)), .unset]) rfl (XS.iloadN X139.here hx rfl (hb hby at_26) rfl (XS.iconst X139.here hx rfl (hb hby at_27) kz))) ?_
      show Goes p e below (T139.setTop (mkF m 28 #[.val (.int p1), .val (.int p2), .val (.int (4 : Int32)), .val (.int (1 : Int32)), .val (.ref (w 2)), .val (.ref (w 3)), .unset] [(.int (4 : Int32)), (.int (4 : Int32))])) _
      refine Goes.by (fun _ kz => XS.icmpYes X139.here hx rfl (pc0 := 28) (pc' := 54) rfl (hb hby at_28) rfl (teq (by decide : (4 : Int32) = (4 : Int32))).1 (by decide) (by decide) (XS.iconst X139.here hx rfl (hb hby at_54) (XS.istore X139.here hx rfl (hb hby at_55) rfl (l' := #[.val (.int p1), .val (.int p2), .val (.int (4 : Int32)), .val (.int (1 : Int32)), .val (.ref (w 2)), .val (.ref (w 3)), .val (.int (0 : Int32))]) rfl kz))) ?_
      show Goes p e below (T139.setTop (mkF m 57 #[.val (.int p1), .val (.int p2), .val (.int (4 : Int32)), .val (.int (1 : Int32)), .val (.ref (w 2)), .val (.ref (w 3)), .val (.int (0 : Int32))] [])) _
      refine Goes.by (fun _ kz => XS.aload X139.here hx rfl (hb hby at_57) rfl rfl (XS.aload X139.here hx rfl (hb hby at_59) rfl rfl kz)) ?_
      obtain ⟨cq142, kq142, q142a, q142b, q142c⟩ := isOf hZ e139 P.2.2.2.2.2.1
      obtain ⟨_, _, ⟨T142, L142, k142, n142⟩, -, X142, ⟨Lc142, hQ142, l142, y142, z142⟩, st142⟩ := X139.virtualBack hx (y := (⟨"com/example/nextkey/nextkey/lock/LockKind", "covers", "(Lcom/example/nextkey/nextkey/lock/LockKind;)Z"⟩ : MethodName)) (z := (⟨"com/example/nextkey/nextkey/lock/LockKind", "covers", "(Lcom/example/nextkey/nextkey/lock/LockKind;)Z"⟩ : MethodName)) hown (mvT hZ (hw _ (List.mem_of_getElem? (i := 13) rfl))) (mvT hZ (hw _ (List.mem_of_getElem? (i := 14) rfl))) (notFace_of_selects (args := #[]) (mvT hZ (hw _ (List.mem_of_getElem? (i := 16) rfl)))) (mvT hZ (hw _ (List.mem_of_getElem? (i := 16) rfl))) (mvT hZ (hw _ (List.mem_of_getElem? (i := 15) rfl))) (by decide) (backOf (W := 0) (r3_30 l Z a0 hw [] h0 n0 Z0 w P) hZ (hw _ (List.mem_of_getElem? (i := 17) rfl)) (hw _ (List.mem_of_getElem? (i := 6) rfl)) (by decide) (by decide)) q142a q142c (g := (mkF m 61 #[.val (.int p1), .val (.int p2), .val (.int (4 : Int32)), .val (.int (1 : Int32)), .val (.ref (w 2)), .val (.ref (w 3)), .val (.int (0 : Int32))] [(.ref (w 3)), (.ref (w 2))])) rfl (by rw [hml]; rfl) (Steps.refl _) (argsL := [(.ref (w 3))]) (rest := []) (lenOf pd2 rfl) rfl (by show 2 * 0 + _ ≤ _; exact Nat.le_of_eq rfl) (hb hby at_61) (fun _ _ => ⟨rfl, e139, (by decide : 0 + 0 ≤ _), (by decide : 0 + 0 ≤ _)⟩)
      dsimp only [Pt.U, Pt.locs, Pt.cells, Pt.slots] at X142 l142 y142 z142 st142 hQ142
      subst l142 y142 z142
      obtain ⟨rfl, Nq142, e142⟩ := hQ142
      have N142 := Fr.app N139 Nq142
      refine Goes.tr st142 ?_
      refine Goes.by (fun _ kz => XS.iload X142.here hx rfl (hb hby at_64) rfl (XS.icmpNo X142.here hx rfl (hb hby at_66) rfl (teq (by decide : (0 : Int32) = (0 : Int32))).2 (XS.iconst X142.here hx rfl (hb hby at_69) kz))) ?_
      show Goes p e below (T142.setTop (mkF m 70 #[.val (.int p1), .val (.int p2), .val (.int (4 : Int32)), .val (.int (1 : Int32)), .val (.ref (w 2)), .val (.ref (w 3)), .val (.int (0 : Int32))] [(.int (1 : Int32))])) _
      refine Goes.by (fun _ kz => XS.goto X142.here hx rfl (pc0 := 70) (pc' := 74) rfl (hb hby at_70) (by decide) (by decide) kz) ?_
      show Goes p e below (T142.setTop (mkF m 74 #[.val (.int p1), .val (.int p2), .val (.int (4 : Int32)), .val (.int (1 : Int32)), .val (.ref (w 2)), .val (.ref (w 3)), .val (.int (0 : Int32))] [(.int (1 : Int32))])) _
      obtain ⟨fs, hr, hrun, hended, hW, hsame⟩ := X142.leave (v := some (.int (1 : Int32))) (fun h => by rw [Bd.returns] at h; cases h)
      exact ⟨_, _, retN X142 hx (t := .boolean) Bd.returns (by simp) (hb hby at_74) hr, hrun, hended, _, _, rfl, ⟨rfl, N142⟩, ⟨_, rfl⟩, hW, hsame.mono (by decide) (by decide)⟩
    · show Goes p e below (s₁.setTop (mkF m 14 #[.val (.int p1), .val (.int p2), .val (.int (4 : Int32)), .val (.int (2 : Int32)), .unset, .unset, .unset] [])) _
      refine Goes.by (fun _ kz => XS.iloadN X0.here hx rfl (hb hby at_14) rfl kz) ?_
      obtain ⟨_, _, ⟨T143, L143, k143, n143⟩, -, X143, ⟨Lc143, hQ143, l143, y143, z143⟩, st143⟩ := Jvm.LawKit.callS X0 hx (y := (⟨"com/example/nextkey/nextkey/lock/LockKindCoversPinLaw", "kind", "(I)Lcom/example/nextkey/nextkey/lock/LockKind;"⟩ : MethodName)) hown (mvT hZ (hw _ (List.mem_of_getElem? (i := 1) rfl))) (mvT hZ (hw _ (List.mem_of_getElem? (i := 2) rfl))) (mvT hZ (hw _ (List.mem_of_getElem? (i := 3) rfl))) (mvT hZ (hw _ (List.mem_of_getElem? (i := 4) rfl))) (by decide) (backOf (W := 0) (r1_12 l Z a0 hw [] h0 n0 Z0 w P) hZ (hw _ (List.mem_of_getElem? (i := 4) rfl)) (hw _ (List.mem_of_getElem? (i := 3) rfl)) (by decide) (by decide)) (g := (mkF m 15 #[.val (.int p1), .val (.int p2), .val (.int (4 : Int32)), .val (.int (2 : Int32)), .unset, .unset, .unset] [(.int (4 : Int32))])) rfl (by rw [hml]; rfl) (argsL := [(.int (4 : Int32))]) (rest := []) (lenOf pd0 rfl) rfl (by show 2 * 0 + _ ≤ _; exact Nat.le_of_eq rfl) (hb hby at_15) (fun _ _ => ⟨rfl, e0, (by decide : 0 + 0 ≤ _), (by decide : 0 + 0 ≤ _)⟩)
      dsimp only [Pt.U, Pt.locs, Pt.cells, Pt.slots] at X143 l143 y143 z143 st143 hQ143
      subst l143 y143 z143
      obtain ⟨rfl, Nq143, e143⟩ := hQ143
      have N143 := Fr.app N0 Nq143
      refine Goes.by st143 ?_
      refine Goes.by (fun _ kz => XS.astore X143.here hx rfl (hb hby at_18) rfl rfl (l' := #[.val (.int p1), .val (.int p2), .val (.int (4 : Int32)), .val (.int (2 : Int32)), .val (.ref (w 2)), .unset, .unset]) rfl (XS.iloadN X143.here hx rfl (hb hby at_20) rfl kz)) ?_
      obtain ⟨_, _, ⟨T144, L144, k144, n144⟩, -, X144, ⟨Lc144, hQ144, l144, y144, z144⟩, st144⟩ := Jvm.LawKit.callS X143 hx (y := (⟨"com/example/nextkey/nextkey/lock/LockKindCoversPinLaw", "kind", "(I)Lcom/example/nextkey/nextkey/lock/LockKind;"⟩ : MethodName)) hown (mvT hZ (hw _ (List.mem_of_getElem? (i := 1) rfl))) (mvT hZ (hw _ (List.mem_of_getElem? (i := 2) rfl))) (mvT hZ (hw _ (List.mem_of_getElem? (i := 3) rfl))) (mvT hZ (hw _ (List.mem_of_getElem? (i := 4) rfl))) (by decide) (backOf (W := 0) (r1_6 l Z a0 hw [] h0 n0 Z0 w P) hZ (hw _ (List.mem_of_getElem? (i := 4) rfl)) (hw _ (List.mem_of_getElem? (i := 3) rfl)) (by decide) (by decide)) (g := (mkF m 21 #[.val (.int p1), .val (.int p2), .val (.int (4 : Int32)), .val (.int (2 : Int32)), .val (.ref (w 2)), .unset, .unset] [(.int (2 : Int32))])) rfl (by rw [hml]; rfl) (argsL := [(.int (2 : Int32))]) (rest := []) (lenOf pd0 rfl) rfl (by show 2 * 0 + _ ≤ _; exact Nat.le_of_eq rfl) (hb hby at_21) (fun _ _ => ⟨rfl, e143, (by decide : 0 + 0 ≤ _), (by decide : 0 + 0 ≤ _)⟩)
      dsimp only [Pt.U, Pt.locs, Pt.cells, Pt.slots] at X144 l144 y144 z144 st144 hQ144
      subst l144 y144 z144
      obtain ⟨rfl, Nq144, e144⟩ := hQ144
      have N144 := Fr.app N143 Nq144
      refine Goes.by st144 ?_
      refine Goes.by (fun _ kz => XS.astore X144.here hx rfl (hb hby at_24) rfl rfl (l' := #[.val (.int p1), .val (.int p2), .val (.int (4 : Int32)), .val (.int (2 : Int32)), .val (.ref (w 2)), .val (.ref (w 4)), .unset]) rfl (XS.iloadN X144.here hx rfl (hb hby at_26) rfl (XS.iconst X144.here hx rfl (hb hby at_27) kz))) ?_
      show Goes p e below (T144.setTop (mkF m 28 #[.val (.int p1), .val (.int p2), .val (.int (4 : Int32)), .val (.int (2 : Int32)), .val (.ref (w 2)), .val (.ref (w 4)), .unset] [(.int (4 : Int32)), (.int (4 : Int32))])) _
      refine Goes.by (fun _ kz => XS.icmpYes X144.here hx rfl (pc0 := 28) (pc' := 54) rfl (hb hby at_28) rfl (teq (by decide : (4 : Int32) = (4 : Int32))).1 (by decide) (by decide) (XS.iconst X144.here hx rfl (hb hby at_54) (XS.istore X144.here hx rfl (hb hby at_55) rfl (l' := #[.val (.int p1), .val (.int p2), .val (.int (4 : Int32)), .val (.int (2 : Int32)), .val (.ref (w 2)), .val (.ref (w 4)), .val (.int (0 : Int32))]) rfl kz))) ?_
      show Goes p e below (T144.setTop (mkF m 57 #[.val (.int p1), .val (.int p2), .val (.int (4 : Int32)), .val (.int (2 : Int32)), .val (.ref (w 2)), .val (.ref (w 4)), .val (.int (0 : Int32))] [])) _
      refine Goes.by (fun _ kz => XS.aload X144.here hx rfl (hb hby at_57) rfl rfl (XS.aload X144.here hx rfl (hb hby at_59) rfl rfl kz)) ?_
      obtain ⟨cq147, kq147, q147a, q147b, q147c⟩ := isOf hZ e144 P.2.2.2.2.2.1
      obtain ⟨_, _, ⟨T147, L147, k147, n147⟩, -, X147, ⟨Lc147, hQ147, l147, y147, z147⟩, st147⟩ := X144.virtualBack hx (y := (⟨"com/example/nextkey/nextkey/lock/LockKind", "covers", "(Lcom/example/nextkey/nextkey/lock/LockKind;)Z"⟩ : MethodName)) (z := (⟨"com/example/nextkey/nextkey/lock/LockKind", "covers", "(Lcom/example/nextkey/nextkey/lock/LockKind;)Z"⟩ : MethodName)) hown (mvT hZ (hw _ (List.mem_of_getElem? (i := 13) rfl))) (mvT hZ (hw _ (List.mem_of_getElem? (i := 14) rfl))) (notFace_of_selects (args := #[]) (mvT hZ (hw _ (List.mem_of_getElem? (i := 16) rfl)))) (mvT hZ (hw _ (List.mem_of_getElem? (i := 16) rfl))) (mvT hZ (hw _ (List.mem_of_getElem? (i := 15) rfl))) (by decide) (backOf (W := 0) (r3_31 l Z a0 hw [] h0 n0 Z0 w P) hZ (hw _ (List.mem_of_getElem? (i := 17) rfl)) (hw _ (List.mem_of_getElem? (i := 6) rfl)) (by decide) (by decide)) q147a q147c (g := (mkF m 61 #[.val (.int p1), .val (.int p2), .val (.int (4 : Int32)), .val (.int (2 : Int32)), .val (.ref (w 2)), .val (.ref (w 4)), .val (.int (0 : Int32))] [(.ref (w 4)), (.ref (w 2))])) rfl (by rw [hml]; rfl) (Steps.refl _) (argsL := [(.ref (w 4))]) (rest := []) (lenOf pd2 rfl) rfl (by show 2 * 0 + _ ≤ _; exact Nat.le_of_eq rfl) (hb hby at_61) (fun _ _ => ⟨rfl, e144, (by decide : 0 + 0 ≤ _), (by decide : 0 + 0 ≤ _)⟩)
      dsimp only [Pt.U, Pt.locs, Pt.cells, Pt.slots] at X147 l147 y147 z147 st147 hQ147
      subst l147 y147 z147
      obtain ⟨rfl, Nq147, e147⟩ := hQ147
      have N147 := Fr.app N144 Nq147
      refine Goes.tr st147 ?_
      refine Goes.by (fun _ kz => XS.iload X147.here hx rfl (hb hby at_64) rfl (XS.icmpNo X147.here hx rfl (hb hby at_66) rfl (teq (by decide : (0 : Int32) = (0 : Int32))).2 (XS.iconst X147.here hx rfl (hb hby at_69) kz))) ?_
      show Goes p e below (T147.setTop (mkF m 70 #[.val (.int p1), .val (.int p2), .val (.int (4 : Int32)), .val (.int (2 : Int32)), .val (.ref (w 2)), .val (.ref (w 4)), .val (.int (0 : Int32))] [(.int (1 : Int32))])) _
      refine Goes.by (fun _ kz => XS.goto X147.here hx rfl (pc0 := 70) (pc' := 74) rfl (hb hby at_70) (by decide) (by decide) kz) ?_
      show Goes p e below (T147.setTop (mkF m 74 #[.val (.int p1), .val (.int p2), .val (.int (4 : Int32)), .val (.int (2 : Int32)), .val (.ref (w 2)), .val (.ref (w 4)), .val (.int (0 : Int32))] [(.int (1 : Int32))])) _
      obtain ⟨fs, hr, hrun, hended, hW, hsame⟩ := X147.leave (v := some (.int (1 : Int32))) (fun h => by rw [Bd.returns] at h; cases h)
      exact ⟨_, _, retN X147 hx (t := .boolean) Bd.returns (by simp) (hb hby at_74) hr, hrun, hended, _, _, rfl, ⟨rfl, N147⟩, ⟨_, rfl⟩, hW, hsame.mono (by decide) (by decide)⟩
    · show Goes p e below (s₁.setTop (mkF m 14 #[.val (.int p1), .val (.int p2), .val (.int (4 : Int32)), .val (.int (3 : Int32)), .unset, .unset, .unset] [])) _
      refine Goes.by (fun _ kz => XS.iloadN X0.here hx rfl (hb hby at_14) rfl kz) ?_
      obtain ⟨_, _, ⟨T148, L148, k148, n148⟩, -, X148, ⟨Lc148, hQ148, l148, y148, z148⟩, st148⟩ := Jvm.LawKit.callS X0 hx (y := (⟨"com/example/nextkey/nextkey/lock/LockKindCoversPinLaw", "kind", "(I)Lcom/example/nextkey/nextkey/lock/LockKind;"⟩ : MethodName)) hown (mvT hZ (hw _ (List.mem_of_getElem? (i := 1) rfl))) (mvT hZ (hw _ (List.mem_of_getElem? (i := 2) rfl))) (mvT hZ (hw _ (List.mem_of_getElem? (i := 3) rfl))) (mvT hZ (hw _ (List.mem_of_getElem? (i := 4) rfl))) (by decide) (backOf (W := 0) (r1_12 l Z a0 hw [] h0 n0 Z0 w P) hZ (hw _ (List.mem_of_getElem? (i := 4) rfl)) (hw _ (List.mem_of_getElem? (i := 3) rfl)) (by decide) (by decide)) (g := (mkF m 15 #[.val (.int p1), .val (.int p2), .val (.int (4 : Int32)), .val (.int (3 : Int32)), .unset, .unset, .unset] [(.int (4 : Int32))])) rfl (by rw [hml]; rfl) (argsL := [(.int (4 : Int32))]) (rest := []) (lenOf pd0 rfl) rfl (by show 2 * 0 + _ ≤ _; exact Nat.le_of_eq rfl) (hb hby at_15) (fun _ _ => ⟨rfl, e0, (by decide : 0 + 0 ≤ _), (by decide : 0 + 0 ≤ _)⟩)
      dsimp only [Pt.U, Pt.locs, Pt.cells, Pt.slots] at X148 l148 y148 z148 st148 hQ148
      subst l148 y148 z148
      obtain ⟨rfl, Nq148, e148⟩ := hQ148
      have N148 := Fr.app N0 Nq148
      refine Goes.by st148 ?_
      refine Goes.by (fun _ kz => XS.astore X148.here hx rfl (hb hby at_18) rfl rfl (l' := #[.val (.int p1), .val (.int p2), .val (.int (4 : Int32)), .val (.int (3 : Int32)), .val (.ref (w 2)), .unset, .unset]) rfl (XS.iloadN X148.here hx rfl (hb hby at_20) rfl kz)) ?_
      obtain ⟨_, _, ⟨T149, L149, k149, n149⟩, -, X149, ⟨Lc149, hQ149, l149, y149, z149⟩, st149⟩ := Jvm.LawKit.callS X148 hx (y := (⟨"com/example/nextkey/nextkey/lock/LockKindCoversPinLaw", "kind", "(I)Lcom/example/nextkey/nextkey/lock/LockKind;"⟩ : MethodName)) hown (mvT hZ (hw _ (List.mem_of_getElem? (i := 1) rfl))) (mvT hZ (hw _ (List.mem_of_getElem? (i := 2) rfl))) (mvT hZ (hw _ (List.mem_of_getElem? (i := 3) rfl))) (mvT hZ (hw _ (List.mem_of_getElem? (i := 4) rfl))) (by decide) (backOf (W := 0) (r1_9 l Z a0 hw [] h0 n0 Z0 w P) hZ (hw _ (List.mem_of_getElem? (i := 4) rfl)) (hw _ (List.mem_of_getElem? (i := 3) rfl)) (by decide) (by decide)) (g := (mkF m 21 #[.val (.int p1), .val (.int p2), .val (.int (4 : Int32)), .val (.int (3 : Int32)), .val (.ref (w 2)), .unset, .unset] [(.int (3 : Int32))])) rfl (by rw [hml]; rfl) (argsL := [(.int (3 : Int32))]) (rest := []) (lenOf pd0 rfl) rfl (by show 2 * 0 + _ ≤ _; exact Nat.le_of_eq rfl) (hb hby at_21) (fun _ _ => ⟨rfl, e148, (by decide : 0 + 0 ≤ _), (by decide : 0 + 0 ≤ _)⟩)
      dsimp only [Pt.U, Pt.locs, Pt.cells, Pt.slots] at X149 l149 y149 z149 st149 hQ149
      subst l149 y149 z149
      obtain ⟨rfl, Nq149, e149⟩ := hQ149
      have N149 := Fr.app N148 Nq149
      refine Goes.by st149 ?_
      refine Goes.by (fun _ kz => XS.astore X149.here hx rfl (hb hby at_24) rfl rfl (l' := #[.val (.int p1), .val (.int p2), .val (.int (4 : Int32)), .val (.int (3 : Int32)), .val (.ref (w 2)), .val (.ref (w 1)), .unset]) rfl (XS.iloadN X149.here hx rfl (hb hby at_26) rfl (XS.iconst X149.here hx rfl (hb hby at_27) kz))) ?_
      show Goes p e below (T149.setTop (mkF m 28 #[.val (.int p1), .val (.int p2), .val (.int (4 : Int32)), .val (.int (3 : Int32)), .val (.ref (w 2)), .val (.ref (w 1)), .unset] [(.int (4 : Int32)), (.int (4 : Int32))])) _
      refine Goes.by (fun _ kz => XS.icmpYes X149.here hx rfl (pc0 := 28) (pc' := 54) rfl (hb hby at_28) rfl (teq (by decide : (4 : Int32) = (4 : Int32))).1 (by decide) (by decide) (XS.iconst X149.here hx rfl (hb hby at_54) (XS.istore X149.here hx rfl (hb hby at_55) rfl (l' := #[.val (.int p1), .val (.int p2), .val (.int (4 : Int32)), .val (.int (3 : Int32)), .val (.ref (w 2)), .val (.ref (w 1)), .val (.int (0 : Int32))]) rfl kz))) ?_
      show Goes p e below (T149.setTop (mkF m 57 #[.val (.int p1), .val (.int p2), .val (.int (4 : Int32)), .val (.int (3 : Int32)), .val (.ref (w 2)), .val (.ref (w 1)), .val (.int (0 : Int32))] [])) _
      refine Goes.by (fun _ kz => XS.aload X149.here hx rfl (hb hby at_57) rfl rfl (XS.aload X149.here hx rfl (hb hby at_59) rfl rfl kz)) ?_
      obtain ⟨cq152, kq152, q152a, q152b, q152c⟩ := isOf hZ e149 P.2.2.2.2.2.1
      obtain ⟨_, _, ⟨T152, L152, k152, n152⟩, -, X152, ⟨Lc152, hQ152, l152, y152, z152⟩, st152⟩ := X149.virtualBack hx (y := (⟨"com/example/nextkey/nextkey/lock/LockKind", "covers", "(Lcom/example/nextkey/nextkey/lock/LockKind;)Z"⟩ : MethodName)) (z := (⟨"com/example/nextkey/nextkey/lock/LockKind", "covers", "(Lcom/example/nextkey/nextkey/lock/LockKind;)Z"⟩ : MethodName)) hown (mvT hZ (hw _ (List.mem_of_getElem? (i := 13) rfl))) (mvT hZ (hw _ (List.mem_of_getElem? (i := 14) rfl))) (notFace_of_selects (args := #[]) (mvT hZ (hw _ (List.mem_of_getElem? (i := 16) rfl)))) (mvT hZ (hw _ (List.mem_of_getElem? (i := 16) rfl))) (mvT hZ (hw _ (List.mem_of_getElem? (i := 15) rfl))) (by decide) (backOf (W := 0) (r3_32 l Z a0 hw [] h0 n0 Z0 w P) hZ (hw _ (List.mem_of_getElem? (i := 17) rfl)) (hw _ (List.mem_of_getElem? (i := 6) rfl)) (by decide) (by decide)) q152a q152c (g := (mkF m 61 #[.val (.int p1), .val (.int p2), .val (.int (4 : Int32)), .val (.int (3 : Int32)), .val (.ref (w 2)), .val (.ref (w 1)), .val (.int (0 : Int32))] [(.ref (w 1)), (.ref (w 2))])) rfl (by rw [hml]; rfl) (Steps.refl _) (argsL := [(.ref (w 1))]) (rest := []) (lenOf pd2 rfl) rfl (by show 2 * 0 + _ ≤ _; exact Nat.le_of_eq rfl) (hb hby at_61) (fun _ _ => ⟨rfl, e149, (by decide : 0 + 0 ≤ _), (by decide : 0 + 0 ≤ _)⟩)
      dsimp only [Pt.U, Pt.locs, Pt.cells, Pt.slots] at X152 l152 y152 z152 st152 hQ152
      subst l152 y152 z152
      obtain ⟨rfl, Nq152, e152⟩ := hQ152
      have N152 := Fr.app N149 Nq152
      refine Goes.tr st152 ?_
      refine Goes.by (fun _ kz => XS.iload X152.here hx rfl (hb hby at_64) rfl (XS.icmpNo X152.here hx rfl (hb hby at_66) rfl (teq (by decide : (0 : Int32) = (0 : Int32))).2 (XS.iconst X152.here hx rfl (hb hby at_69) kz))) ?_
      show Goes p e below (T152.setTop (mkF m 70 #[.val (.int p1), .val (.int p2), .val (.int (4 : Int32)), .val (.int (3 : Int32)), .val (.ref (w 2)), .val (.ref (w 1)), .val (.int (0 : Int32))] [(.int (1 : Int32))])) _
      refine Goes.by (fun _ kz => XS.goto X152.here hx rfl (pc0 := 70) (pc' := 74) rfl (hb hby at_70) (by decide) (by decide) kz) ?_
      show Goes p e below (T152.setTop (mkF m 74 #[.val (.int p1), .val (.int p2), .val (.int (4 : Int32)), .val (.int (3 : Int32)), .val (.ref (w 2)), .val (.ref (w 1)), .val (.int (0 : Int32))] [(.int (1 : Int32))])) _
      obtain ⟨fs, hr, hrun, hended, hW, hsame⟩ := X152.leave (v := some (.int (1 : Int32))) (fun h => by rw [Bd.returns] at h; cases h)
      exact ⟨_, _, retN X152 hx (t := .boolean) Bd.returns (by simp) (hb hby at_74) hr, hrun, hended, _, _, rfl, ⟨rfl, N152⟩, ⟨_, rfl⟩, hW, hsame.mono (by decide) (by decide)⟩
    · show Goes p e below (s₁.setTop (mkF m 14 #[.val (.int p1), .val (.int p2), .val (.int (4 : Int32)), .val (.int (4 : Int32)), .unset, .unset, .unset] [])) _
      refine Goes.by (fun _ kz => XS.iloadN X0.here hx rfl (hb hby at_14) rfl kz) ?_
      obtain ⟨_, _, ⟨T153, L153, k153, n153⟩, -, X153, ⟨Lc153, hQ153, l153, y153, z153⟩, st153⟩ := Jvm.LawKit.callS X0 hx (y := (⟨"com/example/nextkey/nextkey/lock/LockKindCoversPinLaw", "kind", "(I)Lcom/example/nextkey/nextkey/lock/LockKind;"⟩ : MethodName)) hown (mvT hZ (hw _ (List.mem_of_getElem? (i := 1) rfl))) (mvT hZ (hw _ (List.mem_of_getElem? (i := 2) rfl))) (mvT hZ (hw _ (List.mem_of_getElem? (i := 3) rfl))) (mvT hZ (hw _ (List.mem_of_getElem? (i := 4) rfl))) (by decide) (backOf (W := 0) (r1_12 l Z a0 hw [] h0 n0 Z0 w P) hZ (hw _ (List.mem_of_getElem? (i := 4) rfl)) (hw _ (List.mem_of_getElem? (i := 3) rfl)) (by decide) (by decide)) (g := (mkF m 15 #[.val (.int p1), .val (.int p2), .val (.int (4 : Int32)), .val (.int (4 : Int32)), .unset, .unset, .unset] [(.int (4 : Int32))])) rfl (by rw [hml]; rfl) (argsL := [(.int (4 : Int32))]) (rest := []) (lenOf pd0 rfl) rfl (by show 2 * 0 + _ ≤ _; exact Nat.le_of_eq rfl) (hb hby at_15) (fun _ _ => ⟨rfl, e0, (by decide : 0 + 0 ≤ _), (by decide : 0 + 0 ≤ _)⟩)
      dsimp only [Pt.U, Pt.locs, Pt.cells, Pt.slots] at X153 l153 y153 z153 st153 hQ153
      subst l153 y153 z153
      obtain ⟨rfl, Nq153, e153⟩ := hQ153
      have N153 := Fr.app N0 Nq153
      refine Goes.by st153 ?_
      refine Goes.by (fun _ kz => XS.astore X153.here hx rfl (hb hby at_18) rfl rfl (l' := #[.val (.int p1), .val (.int p2), .val (.int (4 : Int32)), .val (.int (4 : Int32)), .val (.ref (w 2)), .unset, .unset]) rfl (XS.iloadN X153.here hx rfl (hb hby at_20) rfl kz)) ?_
      obtain ⟨_, _, ⟨T154, L154, k154, n154⟩, -, X154, ⟨Lc154, hQ154, l154, y154, z154⟩, st154⟩ := Jvm.LawKit.callS X153 hx (y := (⟨"com/example/nextkey/nextkey/lock/LockKindCoversPinLaw", "kind", "(I)Lcom/example/nextkey/nextkey/lock/LockKind;"⟩ : MethodName)) hown (mvT hZ (hw _ (List.mem_of_getElem? (i := 1) rfl))) (mvT hZ (hw _ (List.mem_of_getElem? (i := 2) rfl))) (mvT hZ (hw _ (List.mem_of_getElem? (i := 3) rfl))) (mvT hZ (hw _ (List.mem_of_getElem? (i := 4) rfl))) (by decide) (backOf (W := 0) (r1_12 l Z a0 hw [] h0 n0 Z0 w P) hZ (hw _ (List.mem_of_getElem? (i := 4) rfl)) (hw _ (List.mem_of_getElem? (i := 3) rfl)) (by decide) (by decide)) (g := (mkF m 21 #[.val (.int p1), .val (.int p2), .val (.int (4 : Int32)), .val (.int (4 : Int32)), .val (.ref (w 2)), .unset, .unset] [(.int (4 : Int32))])) rfl (by rw [hml]; rfl) (argsL := [(.int (4 : Int32))]) (rest := []) (lenOf pd0 rfl) rfl (by show 2 * 0 + _ ≤ _; exact Nat.le_of_eq rfl) (hb hby at_21) (fun _ _ => ⟨rfl, e153, (by decide : 0 + 0 ≤ _), (by decide : 0 + 0 ≤ _)⟩)
      dsimp only [Pt.U, Pt.locs, Pt.cells, Pt.slots] at X154 l154 y154 z154 st154 hQ154
      subst l154 y154 z154
      obtain ⟨rfl, Nq154, e154⟩ := hQ154
      have N154 := Fr.app N153 Nq154
      refine Goes.by st154 ?_
      refine Goes.by (fun _ kz => XS.astore X154.here hx rfl (hb hby at_24) rfl rfl (l' := #[.val (.int p1), .val (.int p2), .val (.int (4 : Int32)), .val (.int (4 : Int32)), .val (.ref (w 2)), .val (.ref (w 2)), .unset]) rfl (XS.iloadN X154.here hx rfl (hb hby at_26) rfl (XS.iconst X154.here hx rfl (hb hby at_27) kz))) ?_
      show Goes p e below (T154.setTop (mkF m 28 #[.val (.int p1), .val (.int p2), .val (.int (4 : Int32)), .val (.int (4 : Int32)), .val (.ref (w 2)), .val (.ref (w 2)), .unset] [(.int (4 : Int32)), (.int (4 : Int32))])) _
      refine Goes.by (fun _ kz => XS.icmpYes X154.here hx rfl (pc0 := 28) (pc' := 54) rfl (hb hby at_28) rfl (teq (by decide : (4 : Int32) = (4 : Int32))).1 (by decide) (by decide) (XS.iconst X154.here hx rfl (hb hby at_54) (XS.istore X154.here hx rfl (hb hby at_55) rfl (l' := #[.val (.int p1), .val (.int p2), .val (.int (4 : Int32)), .val (.int (4 : Int32)), .val (.ref (w 2)), .val (.ref (w 2)), .val (.int (0 : Int32))]) rfl kz))) ?_
      show Goes p e below (T154.setTop (mkF m 57 #[.val (.int p1), .val (.int p2), .val (.int (4 : Int32)), .val (.int (4 : Int32)), .val (.ref (w 2)), .val (.ref (w 2)), .val (.int (0 : Int32))] [])) _
      refine Goes.by (fun _ kz => XS.aload X154.here hx rfl (hb hby at_57) rfl rfl (XS.aload X154.here hx rfl (hb hby at_59) rfl rfl kz)) ?_
      obtain ⟨cq156, kq156, q156a, q156b, q156c⟩ := isOf hZ e154 P.2.2.2.2.2.1
      obtain ⟨_, _, ⟨T156, L156, k156, n156⟩, -, X156, ⟨Lc156, hQ156, l156, y156, z156⟩, st156⟩ := X154.virtualBack hx (y := (⟨"com/example/nextkey/nextkey/lock/LockKind", "covers", "(Lcom/example/nextkey/nextkey/lock/LockKind;)Z"⟩ : MethodName)) (z := (⟨"com/example/nextkey/nextkey/lock/LockKind", "covers", "(Lcom/example/nextkey/nextkey/lock/LockKind;)Z"⟩ : MethodName)) hown (mvT hZ (hw _ (List.mem_of_getElem? (i := 13) rfl))) (mvT hZ (hw _ (List.mem_of_getElem? (i := 14) rfl))) (notFace_of_selects (args := #[]) (mvT hZ (hw _ (List.mem_of_getElem? (i := 16) rfl)))) (mvT hZ (hw _ (List.mem_of_getElem? (i := 16) rfl))) (mvT hZ (hw _ (List.mem_of_getElem? (i := 15) rfl))) (by decide) (backOf (W := 0) (r3_33 l Z a0 hw [] h0 n0 Z0 w P) hZ (hw _ (List.mem_of_getElem? (i := 17) rfl)) (hw _ (List.mem_of_getElem? (i := 6) rfl)) (by decide) (by decide)) q156a q156c (g := (mkF m 61 #[.val (.int p1), .val (.int p2), .val (.int (4 : Int32)), .val (.int (4 : Int32)), .val (.ref (w 2)), .val (.ref (w 2)), .val (.int (0 : Int32))] [(.ref (w 2)), (.ref (w 2))])) rfl (by rw [hml]; rfl) (Steps.refl _) (argsL := [(.ref (w 2))]) (rest := []) (lenOf pd2 rfl) rfl (by show 2 * 0 + _ ≤ _; exact Nat.le_of_eq rfl) (hb hby at_61) (fun _ _ => ⟨rfl, e154, (by decide : 0 + 0 ≤ _), (by decide : 0 + 0 ≤ _)⟩)
      dsimp only [Pt.U, Pt.locs, Pt.cells, Pt.slots] at X156 l156 y156 z156 st156 hQ156
      subst l156 y156 z156
      obtain ⟨rfl, Nq156, e156⟩ := hQ156
      have N156 := Fr.app N154 Nq156
      refine Goes.tr st156 ?_
      refine Goes.by (fun _ kz => XS.iload X156.here hx rfl (hb hby at_64) rfl (XS.icmpNo X156.here hx rfl (hb hby at_66) rfl (teq (by decide : (0 : Int32) = (0 : Int32))).2 (XS.iconst X156.here hx rfl (hb hby at_69) kz))) ?_
      show Goes p e below (T156.setTop (mkF m 70 #[.val (.int p1), .val (.int p2), .val (.int (4 : Int32)), .val (.int (4 : Int32)), .val (.ref (w 2)), .val (.ref (w 2)), .val (.int (0 : Int32))] [(.int (1 : Int32))])) _
      refine Goes.by (fun _ kz => XS.goto X156.here hx rfl (pc0 := 70) (pc' := 74) rfl (hb hby at_70) (by decide) (by decide) kz) ?_
      show Goes p e below (T156.setTop (mkF m 74 #[.val (.int p1), .val (.int p2), .val (.int (4 : Int32)), .val (.int (4 : Int32)), .val (.ref (w 2)), .val (.ref (w 2)), .val (.int (0 : Int32))] [(.int (1 : Int32))])) _
      obtain ⟨fs, hr, hrun, hended, hW, hsame⟩ := X156.leave (v := some (.int (1 : Int32))) (fun h => by rw [Bd.returns] at h; cases h)
      exact ⟨_, _, retN X156 hx (t := .boolean) Bd.returns (by simp) (hb hby at_74) hr, hrun, hended, _, _, rfl, ⟨rfl, N156⟩, ⟨_, rfl⟩, hW, hsame.mono (by decide) (by decide)⟩
set_option maxRecDepth 65536 in
set_option maxHeartbeats 40000000 in
theorem comes_1 {Post : Tables → Env → Array Value → State → Outcome → State → Prop} (hpost : ∀ tb e args s v u, (limb_1_1.after args s (.returned v) u = true ∧ limb_1_2.after args s (.returned v) u = true ∧ True) → FrameEnd s (.returned v) u (Jvm.fieldLocs frame_1_writes args s ++ Jvm.arrayLocs frame_1_arrays args s ++ Jvm.staticLocs frame_1_statics s) 0 0 → Post tb e args s (.returned v) u) :
    ArmFor flags0 classFile x code maxLocals ret World_1 tables_1 room_1 Calls_1 rest_1 Pre_1 Post := by
  intro l hfl _ _ p e ha hc hk s m args below hf hA hF happ hP
  obtain ⟨hcalls, hrest, hpre⟩ := hP
  obtain ⟨-, -, -, hnamed, -, -, -, hat⟩ := (Spec.applies_iff hf).mp happ
  obtain ⟨hg, hn⟩ := and_e (Cond.before_iff.mp (show (Jvm.Cond.and given_1 narrow_1).before args s = true from hpre))
  obtain ⟨a1, b1⟩ := and_e hg
  obtain ⟨a2, b2⟩ := and_e b1
  obtain ⟨w0, w1, rfl⟩ : ∃ w0 w1 : Value, args = #[w0, w1] := by
    have hs : args.size = 2 := by simpa [Cond.value, given_1] using a1
    obtain ⟨L⟩ := args
    match L, hs with
    | [w0, w1], _ => exact ⟨w0, w1, rfl⟩
  have hw := fun d (hd : d ∈ tables_1) => atoms_spec (ws := Jvm.Cond.code x code maxLocals ret :: tables_1) hat d (List.mem_cons_of_mem _ hd)
  obtain ⟨i0, ei0⟩ := is_v a2
  obtain rfl : w0 = (.int i0) := Option.some.inj ei0
  obtain ⟨i1, ei1⟩ := is_v b2
  obtain rfl : w1 = (.int i1) := Option.some.inj ei1
  obtain ⟨q0, t0⟩ := and_e hn
  obtain ⟨q1, t1⟩ := and_e t0
  obtain ⟨q2, t2⟩ := and_e t1
  obtain ⟨q3, t3⟩ := and_e t2
  obtain ⟨q4, t4⟩ := and_e t3
  obtain ⟨q5, t5⟩ := and_e t4
  obtain ⟨q6, t6⟩ := and_e t5
  obtain ⟨q7, t7⟩ := and_e t6
  obtain ⟨q8, t8⟩ := and_e t7
  have q9 := t8
  obtain ⟨v0, ev0⟩ := exa_v q0
  have S0 := Sta.start ev0 (Or.inr ⟨(hw _ (List.mem_of_getElem? (i := 6) rfl)), (hw _ (List.mem_of_getElem? (i := 7) rfl))⟩)
  have E0 := Exa.start ev0 q0
  obtain ⟨v1, ev1⟩ := exa_v q1
  have S1 := Sta.start ev1 (Or.inr ⟨(hw _ (List.mem_of_getElem? (i := 6) rfl)), (hw _ (List.mem_of_getElem? (i := 9) rfl))⟩)
  have E1 := Exa.start ev1 q1
  obtain ⟨v2, ev2⟩ := exa_v q2
  have S2 := Sta.start ev2 (Or.inr ⟨(hw _ (List.mem_of_getElem? (i := 6) rfl)), (hw _ (List.mem_of_getElem? (i := 19) rfl))⟩)
  have E2 := Exa.start ev2 q2
  obtain ⟨v3, ev3⟩ := exa_v q6
  have S3 := Sta.start ev3 (Or.inr ⟨(hw _ (List.mem_of_getElem? (i := 6) rfl)), (hw _ (List.mem_of_getElem? (i := 23) rfl))⟩)
  have E3 := Exa.start ev3 q6
  obtain ⟨v4, ev4⟩ := exa_v q8
  have S4 := Sta.start ev4 (Or.inr ⟨(hw _ (List.mem_of_getElem? (i := 6) rfl)), (hw _ (List.mem_of_getElem? (i := 26) rfl))⟩)
  have E4 := Exa.start ev4 q8
  have F3 := own_fldI ev1 q3
  have F4 := own_fldI ev2 q4
  have F5 := own_fldI ev0 q5
  have F7 := own_fldI ev3 q7
  have F9 := own_fldI ev4 q9
  have P : Pins s s.heap (fun i => [v0, v1, v2, v3, v4].getD i 0) := ⟨S0, E0, S1, E1, S2, E2, S3, E3, S4, E4, F3, F4, F5, F7, F9⟩
  obtain ⟨n, o, h1, h2, h3, _, L, rfl, ⟨rfl, N⟩, hq⟩ := rm0 l s _ hw tables_1 s.heap s.heap.size (Nat.le_refl _) i0 i1 (fun i => [v0, v1, v2, v3, v4].getD i 0) P p e ha hc hk s m _ below hf ((Spec.applies_iff_loose hf).mp happ).1 ⟨rfl, State.Warmed39.refl s, rfl⟩ trivial
  refine ⟨n, _, h1, h2, h3, hpost _ _ _ _ _ _ ⟨Cond.after_iff.mpr rfl, Cond.after_iff.mpr (eq_i res_at (Term.int_eval (1)) rfl), trivial⟩ ⟨hq.1, hq.2.1, (hq.2.2.sift fun y hy => Or.inr (N y hy)).mono (by decide) (by decide)⟩⟩
theorem main_1_1 : Claimed_1_1 := comes_1 fun _ _ _ _ _ _ h hF => ⟨h.1, hF⟩
theorem main_1_2 : Claimed_1_2 := comes_1 fun _ _ _ _ _ _ h hF => ⟨h.2.1, hF⟩
end Jvm.Pilot.@@N@@
namespace Jvm.Pilot.@@N@@
open Jvm Jvm.ClassFile Sem Op Lib Jvm.Free Jvm.Stand Jvm.Pilot.@@N@@.Jvm.D
/-! MADE BY PROGRAM (witnessworld.py) out of the Statement's table words and the real class files: 12 classes; the members and pool entries that the words name. The judged class is class 1, her method 3. -/
namespace start1
open Jvm.ClassFile
def u (s : String) : CpInfo := .utf8 (stringToUtf16 s)
/-- a pool by its gaps: so many unusable entries, then the entry; so many at the end -/
def gap : Nat → List CpInfo → List CpInfo
  | 0, r => r
  | n + 1, r => .unusable :: gap n r
def poolList (es : List (Nat × CpInfo)) (last : Nat) : List CpInfo := es.foldr (fun e r => gap e.1 (e.2 :: r)) (gap last [])
def pool (es : List (Nat × CpInfo)) (last : Nat) : Array CpInfo := ⟨poolList es last⟩
def fileOf (pool : Array CpInfo) (this : Nat) (attrs : Array Attribute := #[]) (ms : Array MethodInfo := #[]) (fl : Nat := 33) (sup : Nat := 0) (ifs : Array Nat := #[]) (fds : Array FieldInfo := #[]) : ClassFile where
  minorVersion := 0
  majorVersion := 65
  constantPool := pool
  accessFlags := fl
  thisClass := this
  superClass := sup
  interfaces := ifs
  fields := fds
  methods := ms
  attributes := attrs
def plain (name : String) (sup : Option ClassId) : Class where
  name := name
  kind := .ordinary
  loader := none
  accessFlags := 33
  super := sup
  interfaces := #[]
  cf := none
  fields := #[]
  methods := #[]
  instanceTypes := #[]
  staticTypes := #[]
  resolved := #[]
  callSites := []
  init := .initialized
  statics := none
  mirror := none

def pool0 : Array CpInfo := pool [(5, u "<init>"), (0, u "()V"), (1, .class_ 10), (1, u "java/lang/Object")] 113

def k0m0 : Method := { name := "<init>", desc := "()V", sig := { parameters := [], returnType := none }, accessFlags := 1, code := none }
/-- java/lang/Object -/
def k0 : Class := { plain "java/lang/Object" none with
  accessFlags := 33
  interfaces := #[]
  cf := some (fileOf pool0 8 #[] #[{ accessFlags := 1, nameIndex := 5, descriptorIndex := 6, attributes := #[] }] 33 0 #[] #[])
  fields := #[]
  methods := #[k0m0]
  instanceTypes := #[]
  staticTypes := #[]
  resolved := Array.replicate 124 none
  statics := none }

def pool1 : Array CpInfo := pool [(2, .class_ 4), (1, u "java/lang/Object"), (0, u "<init>"), (0, u "()V"), (0, .fieldref 8 9), (0, .class_ 10), (0, .nameAndType 11 12), (0, u "com/example/nextkey/nextkey/lock/LockKind"), (0, u "TABLE"), (0, u "Lcom/example/nextkey/nextkey/lock/LockKind;"), (0, .fieldref 8 14), (0, .nameAndType 15 12), (0, u "RECORD"), (0, .fieldref 8 17), (0, .nameAndType 18 12), (0, u "GAP"), (0, .fieldref 8 20), (0, .nameAndType 21 12), (0, u "NEXT_KEY"), (0, .fieldref 8 23), (0, .nameAndType 24 12), (0, u "INSERT_INTENTION"), (0, .integer 2147483647), (0, .methodref 27 28), (0, .class_ 29), (0, .nameAndType 30 31), (0, u "com/example/nextkey/nextkey/lock/LockKindCoversPinLaw"), (0, u "kind"), (0, u "(I)Lcom/example/nextkey/nextkey/lock/LockKind;"), (0, .methodref 27 33), (0, .nameAndType 34 35), (0, u "parts"), (0, u "(I)I"), (0, .methodref 8 37), (0, .nameAndType 38 39), (0, u "covers"), (0, u "(Lcom/example/nextkey/nextkey/lock/LockKind;)Z"), (3, u "law"), (0, u "(II)Z")] 2

def k1m0 : Method := { name := "<init>", desc := "()V", sig := { parameters := [], returnType := none }, accessFlags := 1, code := none }
def k1c1 : Code := { maxStack := 2, maxLocals := 1, code := method_2_code, exceptionTable := #[], attributes := #[] }
def k1m1 : Method := { name := "kind", desc := "(I)Lcom/example/nextkey/nextkey/lock/LockKind;", sig := { parameters := [.int], returnType := some (.object "com/example/nextkey/nextkey/lock/LockKind") }, accessFlags := 10, code := some k1c1 }
def k1c2 : Code := { maxStack := 2, maxLocals := 1, code := method_3_code, exceptionTable := #[], attributes := #[] }
def k1m2 : Method := { name := "parts", desc := "(I)I", sig := { parameters := [.int], returnType := some .int }, accessFlags := 10, code := some k1c2 }
def k1c3 : Code := { maxStack := 3, maxLocals := 7, code := code, exceptionTable := #[], attributes := #[] }
def k1m3 : Method := { name := "law", desc := "(II)Z", sig := { parameters := [.int, .int], returnType := some .boolean }, accessFlags := 9, code := some k1c3 }
/-- com/example/nextkey/nextkey/lock/LockKindCoversPinLaw -/
def k1 : Class := { plain "com/example/nextkey/nextkey/lock/LockKindCoversPinLaw" (some 0) with
  accessFlags := 49
  interfaces := #[]
  cf := some (fileOf pool1 27 #[] #[{ accessFlags := 1, nameIndex := 5, descriptorIndex := 6, attributes := #[] }, { accessFlags := 10, nameIndex := 30, descriptorIndex := 31, attributes := #[] }, { accessFlags := 10, nameIndex := 34, descriptorIndex := 35, attributes := #[] }, { accessFlags := 9, nameIndex := 43, descriptorIndex := 44, attributes := #[] }] 49 2 #[] #[])
  fields := #[]
  methods := #[k1m0, k1m1, k1m2, k1m3]
  instanceTypes := #[]
  staticTypes := #[]
  resolved := Array.replicate 47 none
  statics := none }

def pool2 : Array CpInfo := pool [(1, .class_ 2), (0, u "java/lang/constant/Constable"), (0, .class_ 4), (0, u "java/lang/Object")] 6

/-- java/lang/constant/Constable -/
def k2 : Class := { plain "java/lang/constant/Constable" (some 0) with
  accessFlags := 1537
  interfaces := #[]
  cf := some (fileOf pool2 1 #[] #[] 1537 3 #[] #[])
  fields := #[]
  methods := #[]
  instanceTypes := #[]
  staticTypes := #[]
  resolved := Array.replicate 11 none
  statics := none }

def pool3 : Array CpInfo := pool [(1, .class_ 2), (0, u "java/lang/Comparable"), (0, .class_ 4), (0, u "java/lang/Object")] 7

/-- java/lang/Comparable -/
def k3 : Class := { plain "java/lang/Comparable" (some 0) with
  accessFlags := 1537
  interfaces := #[]
  cf := some (fileOf pool3 1 #[] #[] 1537 3 #[] #[])
  fields := #[]
  methods := #[]
  instanceTypes := #[]
  staticTypes := #[]
  resolved := Array.replicate 12 none
  statics := none }

def pool4 : Array CpInfo := pool [(1, .class_ 2), (0, u "java/io/Serializable"), (0, .class_ 4), (0, u "java/lang/Object")] 2

/-- java/io/Serializable -/
def k4 : Class := { plain "java/io/Serializable" (some 0) with
  accessFlags := 1537
  interfaces := #[]
  cf := some (fileOf pool4 1 #[] #[] 1537 3 #[] #[])
  fields := #[]
  methods := #[]
  instanceTypes := #[]
  staticTypes := #[]
  resolved := Array.replicate 7 none
  statics := none }

def pool5 : Array CpInfo := pool [(2, .class_ 4), (1, u "java/lang/Enum"), (0, u "name"), (0, u "Ljava/lang/String;"), (2, u "ordinal"), (0, u "I"), (1, .class_ 14), (1, u "java/lang/Object"), (4, u "hash"), (86, .class_ 108), (1, u "java/lang/Enum$EnumDesc"), (2, .class_ 112), (0, u "java/lang/constant/Constable"), (0, .class_ 114), (0, u "java/lang/Comparable"), (0, .class_ 116), (0, u "java/io/Serializable")] 87

/-- java/lang/Enum -/
def k5 : Class := { plain "java/lang/Enum" (some 0) with
  accessFlags := 1057
  interfaces := #[2, 3, 4]
  cf := some (fileOf pool5 2 #[.nestMembers #[106]] #[] 1057 12 #[111, 113, 115] #[{ accessFlags := 18, nameIndex := 5, descriptorIndex := 6, attributes := #[] }, { accessFlags := 18, nameIndex := 9, descriptorIndex := 10, attributes := #[] }, { accessFlags := 2, nameIndex := 19, descriptorIndex := 10, attributes := #[] }])
  fields := #[{ name := "name", type := (.object "java/lang/String"), accessFlags := 18, slot := 0, constantValue := 0 }, { name := "ordinal", type := .int, accessFlags := 18, slot := 1, constantValue := 0 }, { name := "hash", type := .int, accessFlags := 2, slot := 2, constantValue := 0 }]
  methods := #[]
  instanceTypes := #[(.object "java/lang/String"), .int, .int]
  staticTypes := #[]
  resolved := Array.replicate 204 none
  statics := none }

def pool6 : Array CpInfo := pool [(1, .class_ 2), (0, u "com/example/nextkey/nextkey/lock/LockKind"), (0, .fieldref 1 4), (0, .nameAndType 5 6), (0, u "TABLE"), (0, u "Lcom/example/nextkey/nextkey/lock/LockKind;"), (2, u "RECORD"), (2, u "GAP"), (0, .fieldref 1 14), (0, .nameAndType 15 6), (0, u "NEXT_KEY"), (0, .fieldref 1 17), (0, .nameAndType 18 6), (0, u "INSERT_INTENTION"), (2, u "$VALUES"), (0, u "[Lcom/example/nextkey/nextkey/lock/LockKind;"), (6, .class_ 31), (1, u "java/lang/Enum"), (8, u "suffix"), (0, u "Ljava/lang/String;"), (2, u "supremumSuffix"), (49, u "(Lcom/example/nextkey/nextkey/lock/LockKind;)Z"), (0, u "covers")] 5

def k6c0 : Code := { maxStack := 2, maxLocals := 2, code := prog_11_method_7_code, exceptionTable := #[], attributes := #[] }
def k6m0 : Method := { name := "covers", desc := "(Lcom/example/nextkey/nextkey/lock/LockKind;)Z", sig := { parameters := [(.object "com/example/nextkey/nextkey/lock/LockKind")], returnType := some .boolean }, accessFlags := 0, code := some k6c0 }
/-- com/example/nextkey/nextkey/lock/LockKind -/
def k6 : Class := { plain "com/example/nextkey/nextkey/lock/LockKind" (some 5) with
  accessFlags := 16433
  interfaces := #[]
  cf := some (fileOf pool6 1 #[] #[{ accessFlags := 0, nameIndex := 95, descriptorIndex := 94, attributes := #[] }] 16433 29 #[] #[{ accessFlags := 16409, nameIndex := 5, descriptorIndex := 6, attributes := #[] }, { accessFlags := 16409, nameIndex := 9, descriptorIndex := 6, attributes := #[] }, { accessFlags := 16409, nameIndex := 12, descriptorIndex := 6, attributes := #[] }, { accessFlags := 16409, nameIndex := 15, descriptorIndex := 6, attributes := #[] }, { accessFlags := 16409, nameIndex := 18, descriptorIndex := 6, attributes := #[] }, { accessFlags := 18, nameIndex := 40, descriptorIndex := 41, attributes := #[] }, { accessFlags := 18, nameIndex := 44, descriptorIndex := 41, attributes := #[] }, { accessFlags := 4122, nameIndex := 21, descriptorIndex := 22, attributes := #[] }])
  fields := #[{ name := "TABLE", type := (.object "com/example/nextkey/nextkey/lock/LockKind"), accessFlags := 16409, slot := 0, constantValue := 0 }, { name := "RECORD", type := (.object "com/example/nextkey/nextkey/lock/LockKind"), accessFlags := 16409, slot := 1, constantValue := 0 }, { name := "GAP", type := (.object "com/example/nextkey/nextkey/lock/LockKind"), accessFlags := 16409, slot := 2, constantValue := 0 }, { name := "NEXT_KEY", type := (.object "com/example/nextkey/nextkey/lock/LockKind"), accessFlags := 16409, slot := 3, constantValue := 0 }, { name := "INSERT_INTENTION", type := (.object "com/example/nextkey/nextkey/lock/LockKind"), accessFlags := 16409, slot := 4, constantValue := 0 }, { name := "suffix", type := (.object "java/lang/String"), accessFlags := 18, slot := 3, constantValue := 0 }, { name := "supremumSuffix", type := (.object "java/lang/String"), accessFlags := 18, slot := 4, constantValue := 0 }, { name := "$VALUES", type := (.array (.object "com/example/nextkey/nextkey/lock/LockKind")), accessFlags := 4122, slot := 5, constantValue := 0 }]
  methods := #[k6m0]
  instanceTypes := #[(.object "java/lang/String"), .int, .int, (.object "java/lang/String"), (.object "java/lang/String")]
  staticTypes := #[(.object "com/example/nextkey/nextkey/lock/LockKind"), (.object "com/example/nextkey/nextkey/lock/LockKind"), (.object "com/example/nextkey/nextkey/lock/LockKind"), (.object "com/example/nextkey/nextkey/lock/LockKind"), (.object "com/example/nextkey/nextkey/lock/LockKind"), (.array (.object "com/example/nextkey/nextkey/lock/LockKind"))]
  resolved := Array.replicate 101 none
  statics := some 0 }

def pool7 : Array CpInfo := pool [(1, u "java/lang/Cloneable"), (0, .class_ 1), (0, u "java/lang/Object"), (0, .class_ 3)] 3

/-- java/lang/Cloneable -/
def k7 : Class := { plain "java/lang/Cloneable" (some 0) with
  accessFlags := 1537
  interfaces := #[]
  cf := some (fileOf pool7 2 #[] #[] 1537 4 #[] #[])
  fields := #[]
  methods := #[]
  instanceTypes := #[]
  staticTypes := #[]
  resolved := Array.replicate 8 none
  statics := none }

/-- the primitive byte -/
def k8 : Class := { plain "byte" none with kind := .primitive 'B', accessFlags := 0x411 }
/-- [B -/
def k9 : Class := { plain "[B" (some 0) with kind := .array 8 .byte, interfaces := #[7, 4], accessFlags := 1041 }

/-- the primitive int -/
def k10 : Class := { plain "int" none with kind := .primitive 'I', accessFlags := 0x411 }
/-- [I -/
def k11 : Class := { plain "[I" (some 0) with kind := .array 10 .int, interfaces := #[7, 4], accessFlags := 1041 }

def heap : Heap := #[{ cls := 6, slots := #[.ref 1, .ref 4, .ref 5, .ref 2, .ref 3, .null], vm := .statics 6 },
  { cls := 6, slots := #[.null, .int 0, .int 0, .null, .null], vm := .none },
  { cls := 6, slots := #[.null, .int 3, .int 0, .null, .null], vm := .none },
  { cls := 6, slots := #[.null, .int 4, .int 0, .null, .null], vm := .none },
  { cls := 6, slots := #[.null, .int 1, .int 0, .null, .null], vm := .none },
  { cls := 6, slots := #[.null, .int 2, .int 0, .null, .null], vm := .none }]
def classes : Array Class := #[k0, k1, k2, k3, k4, k5, k6, k7, k8, k9, k10, k11]
def interned : List (Array UInt16 × Addr) := []
def slotsUsed : Nat := 31
def theMethod : MethodId := ⟨1, 3⟩
def args0 : Array Value := #[.int 5, .int 7]
def aboutOver (below : List Frame) : State where
  vm := { classes := classes, interned := interned.toArray }
  heap := heap
  slotsUsed := slotsUsed
  threads := #[{ frames := .invoking theMethod args0 :: below }]
def below0 : List Frame := [.native { method := ⟨0, 0⟩, args := #[] }]
def about1 : State := aboutOver below0
def p0 : Program := .bare "" "" ""
def e0 : Env := launch0.env 0 0 0
theorem w_frames : about1.frames = Frame.invoking theMethod args0 :: below0 := rfl
set_option maxRecDepth 65536 in
theorem w_args : argsFit about1.vm theMethod args0 = true := by decide +kernel
set_option maxRecDepth 65536 in
theorem w_heap : heapFits about1 = true := by decide +kernel
set_option maxRecDepth 65536 in
theorem w_runnable : about1.curStatus? = some .runnable := by decide +kernel
set_option maxRecDepth 65536 in
theorem w_alone : about1.alone = true := by decide +kernel
set_option maxRecDepth 65536 in
theorem w_named : about1.methodNamed? x = some theMethod := by decide +kernel
set_option maxRecDepth 65536 in
theorem w_hears : about1.hears theMethod below0 = true := by decide +kernel
set_option maxRecDepth 65536 in
theorem w_ripe : about1.ripe theMethod args0 below0 = true := by decide +kernel
theorem w_running : about1.status = .running := rfl
set_option maxRecDepth 65536 in
theorem w_room : about1.hasRoom e0.platform room_1 = true :=
  launch0.hasRoom_least _ room_1 (by decide +kernel) (by decide +kernel) (by decide +kernel) (by decide +kernel) (by decide +kernel) (by decide +kernel)
theorem allAtoms_all (ts : List Jvm.Cond) (a : Array Jvm.Value) (st : Jvm.State) : (allAtoms ts).before a st = ts.all (fun c => c.before a st) := by
  induction ts with
  | nil => rfl
  | cons c t ih =>
    show (Jvm.Cond.and c (allAtoms t)).before a st = _
    rw [Jvm.Cond.before_and, ih, List.all_cons]
def words1 : List Jvm.Cond := Jvm.Cond.code x code maxLocals ret :: tables_1
/-- a 'code' word, met by the world's own term for the bytes: nothing is compared byte by byte -/
theorem code_word {y : MethodName} {bytes : ByteArray} {mx : Nat} {rt : Option FieldType} {a : Array Value} {s : State} {m : MethodId} {meth : Method} {c : Code} (h1 : s.methodNamed? y = some m) (h2 : s.vm.method? m = some meth) (h3 : meth.code = some c) (h4 : c.code = bytes)
    (h5 : (c.maxLocals == mx && c.exceptionTable.isEmpty && decide (c.maxStack ≤ mostOperands) && decide (meth.sig.returnType = rt) && !meth.locks && decide (parseMethodDescriptor y.desc = some meth.sig)) = true) : (Jvm.Cond.code y bytes mx rt).before a s = true := by
  simp only [Bool.and_eq_true, beq_iff_eq, Bool.not_eq_true', decide_eq_true_eq] at h5
  obtain ⟨⟨⟨⟨⟨g1, g2⟩, g3⟩, g4⟩, g5⟩, g6⟩ := h5
  simp [Cond.before, Cond.holds, Cond.value, h1, h2, h3, h4, g1, g2, g3, g4, g5, g6]
def isCode : Jvm.Cond → Bool
  | .code _ _ _ _ => true
  | _ => false
theorem all_split {L : List Jvm.Cond} {P : Jvm.Cond → Bool} (h1 : L.all (fun c => isCode c || P c) = true) (h2 : ∀ c ∈ L.filter isCode, P c = true) : L.all P = true := by
  refine List.all_eq_true.mpr fun c hc => ?_
  have h := List.all_eq_true.mp h1 c hc
  rcases Bool.eq_false_or_eq_true (isCode c) with hi | hi
  · exact h2 c (List.mem_filter.mpr ⟨hc, hi⟩)
  · simpa [hi] using h
set_option maxRecDepth 65536 in
theorem w_c0 : (Jvm.Cond.code x code maxLocals ret).before args0 about1 = true := code_word (m := ⟨1, 3⟩) (meth := k1m3) (c := k1c3) (by decide +kernel) rfl rfl rfl (by decide +kernel)
set_option maxRecDepth 65536 in
theorem w_c1 : (Jvm.Cond.code ({ cls := "com/example/nextkey/nextkey/lock/LockKindCoversPinLaw", name := "kind", desc := "(I)Lcom/example/nextkey/nextkey/lock/LockKind;" } : Jvm.MethodName) method_2_code (1 : Nat) (Option.some (Jvm.ClassFile.FieldType.object "com/example/nextkey/nextkey/lock/LockKind"))).before args0 about1 = true := code_word (m := ⟨1, 1⟩) (meth := k1m1) (c := k1c1) (by decide +kernel) rfl rfl rfl (by decide +kernel)
set_option maxRecDepth 65536 in
theorem w_c2 : (Jvm.Cond.code ({ cls := "com/example/nextkey/nextkey/lock/LockKindCoversPinLaw", name := "parts", desc := "(I)I" } : Jvm.MethodName) method_3_code (1 : Nat) (Option.some Jvm.ClassFile.FieldType.int)).before args0 about1 = true := code_word (m := ⟨1, 2⟩) (meth := k1m2) (c := k1c2) (by decide +kernel) rfl rfl rfl (by decide +kernel)
set_option maxRecDepth 65536 in
theorem w_c3 : (Jvm.Cond.code ({ cls := "com/example/nextkey/nextkey/lock/LockKind", name := "covers", desc := "(Lcom/example/nextkey/nextkey/lock/LockKind;)Z" } : Jvm.MethodName) prog_11_method_7_code (2 : Nat) (Option.some Jvm.ClassFile.FieldType.boolean)).before args0 about1 = true := code_word (m := ⟨6, 0⟩) (meth := k6m0) (c := k6c0) (by decide +kernel) rfl rfl rfl (by decide +kernel)
def codes1 : List Jvm.Cond := [Jvm.Cond.code x code maxLocals ret, Jvm.Cond.code ({ cls := "com/example/nextkey/nextkey/lock/LockKindCoversPinLaw", name := "kind", desc := "(I)Lcom/example/nextkey/nextkey/lock/LockKind;" } : Jvm.MethodName) method_2_code (1 : Nat) (Option.some (Jvm.ClassFile.FieldType.object "com/example/nextkey/nextkey/lock/LockKind")), Jvm.Cond.code ({ cls := "com/example/nextkey/nextkey/lock/LockKindCoversPinLaw", name := "parts", desc := "(I)I" } : Jvm.MethodName) method_3_code (1 : Nat) (Option.some Jvm.ClassFile.FieldType.int), Jvm.Cond.code ({ cls := "com/example/nextkey/nextkey/lock/LockKind", name := "covers", desc := "(Lcom/example/nextkey/nextkey/lock/LockKind;)Z" } : Jvm.MethodName) prog_11_method_7_code (2 : Nat) (Option.some Jvm.ClassFile.FieldType.boolean)]
set_option maxRecDepth 65536 in
theorem codes_eq : words1.filter isCode = codes1 := rfl
theorem w_codes : ∀ c ∈ words1.filter isCode, c.before args0 about1 = true := by
  rw [codes_eq]
  intro c hc
  simp only [codes1, List.mem_cons, List.not_mem_nil, or_false] at hc
  rcases hc with rfl | rfl | rfl | rfl
  · exact w_c0
  · exact w_c1
  · exact w_c2
  · exact w_c3
set_option maxRecDepth 65536 in
theorem w_t1 : (words1.take 24).all (fun c => isCode c || c.before args0 about1) = true := by decide +kernel
set_option maxRecDepth 65536 in
theorem w_t2 : (words1.drop 24).all (fun c => isCode c || c.before args0 about1) = true := by decide +kernel
theorem w_tables : (allAtoms (Jvm.Cond.code x code maxLocals ret :: tables_1)).before args0 about1 = true := by
  rw [allAtoms_all]
  show words1.all (fun c => c.before args0 about1) = true
  refine all_split ?_ w_codes
  rw [← List.take_append_drop 24 words1, List.all_append, w_t1, w_t2]
  rfl
set_option maxRecDepth 65536 in
theorem w_case : (Jvm.Cond.and given_1 narrow_1).before args0 about1 = true := by decide +kernel
theorem w_applies : (headSpec (Jvm.Cond.code x code maxLocals ret :: tables_1) room_1).applies x e0.platform about1 = true :=
  (Spec.applies_iff w_frames).mpr ⟨w_running, w_runnable, w_alone, w_named, w_hears, w_ripe, w_room, w_tables⟩
theorem atStart : AtStart classFile x code maxLocals ret World_1 tables_1 room_1 Calls_1 rest_1 Pre_1 launch0 p0 e0 about1 theMethod args0 below0 :=
  ⟨lists_1, trivial, launch0.admits_env _ _ _, launch0.least_env, fairChoices_fair.cas, fairChoices_fair.clock, w_frames, w_args, w_heap, w_applies, trivial, trivial, w_case⟩
end start1
theorem witness_1 : WitnessClaimed_1 := ⟨start1.p0, start1.e0, start1.about1, start1.theMethod, start1.args0, start1.below0, start1.atStart⟩
end Jvm.Pilot.@@N@@
