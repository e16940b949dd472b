import JvmDerived
import JvmDerived.Pilot.@@N@@Statement
import JvmDerived.Pilot.@@N@@Code
set_option linter.unusedVariables false
set_option linter.unusedSimpArgs false
@@BLOCK:NumsL.lean.txt@@
namespace Jvm.Pilot.@@N@@
open Jvm Jvm.ClassFile Sem Op Lib Jvm.Free Jvm.Stand Jvm.LawKit Jvm.RoadKit Bundle Jvm.Pilot.@@N@@.Jvm.D
/-- the run goes on from U and ends as Q says -/
def Goes (p : Program) (e : Env) (below : List Frame) (U : State) (Q : Outcome → State → Prop) : Prop := ∃ s₂ o, Steps p.tables e below U s₂ ∧ s₂.status = .running ∧ Ended s₂ below o ∧ Q o s₂
theorem Goes.by {p : Program} {e : Env} {below : List Frame} {U U' : State} {Q : Outcome → State → Prop} (h : ∀ t, Steps p.tables e below U' t → Steps p.tables e below U t) (g : Goes p e below U' Q) : Goes p e below U Q := by
  obtain ⟨s, o, h1, h2⟩ := g; exact ⟨s, o, h _ h1, h2⟩
theorem Goes.tr {p : Program} {e : Env} {below : List Frame} {U U' : State} {Q : Outcome → State → Prop} (h : Steps p.tables e below U U') (g : Goes p e below U' Q) : Goes p e below U Q := Goes.by (fun _ k => h.trans k) g
theorem Goes.join {α : Type} {p : Program} {e : Env} {below : List Frame} {U : State} {Q : Outcome → State → Prop} (P : α → Prop) (S : α → State) (k : (∀ z, P z → Goes p e below (S z) Q) → Goes p e below U Q) (j : ∀ z, P z → Goes p e below (S z) Q) : Goes p e below U Q := k j
theorem Goes.out {p : Program} {e : Env} {below : List Frame} {U : State} {Q : Outcome → State → Prop} (g : Goes p e below U Q) : ∃ s₂ o, Steps p.tables e below U s₂ ∧ s₂.status = .running ∧ Ended s₂ below o ∧ Q o s₂ := g
/-- a callee that writes nothing and returns r -/
def QP (r : Option Value) (h0 : Heap) (n0 : Nat) (v : Option Value) (h : Heap) (L : List Loc) : Prop := v = r ∧ Fr n0 L ∧ h = h0
/-- the law -/
def QL (n0 : Nat) (v : Option Value) (h : Heap) (L : List Loc) : Prop := v = some (.int 1) ∧ Fr n0 L
theorem own_lt {a b : Int64} (h : a < b) : lcmpW a b < 0 := by rw [lcW]; exact (lc_lt a b).mpr h
theorem own_nlt {a b : Int64} (h : ¬ a < b) : ¬ lcmpW a b < 0 := by rw [lcW]; exact fun q => h ((lc_lt a b).mp q)
theorem own_gt {a b : Int64} (h : b < a) : 0 < lcmpW a b := by rw [lcW]; exact (lc_gt a b).mpr h
theorem own_ngt {a b : Int64} (h : ¬ b < a) : ¬ 0 < lcmpW a b := by rw [lcW]; exact fun q => h ((lc_gt a b).mp q)
theorem own_eq {a b : Int64} (h : a = b) : lcmpW a b = 0 := by rw [lcW]; exact (lc_eq a b).mpr h
theorem own_neq {a b : Int64} (h : ¬ a = b) : ¬ lcmpW a b = 0 := by rw [lcW]; exact fun q => h ((lc_eq a b).mp q)
theorem own_staKeep {Z : State} {h h' : Heap} {C n d : String} {v : Value} {ws : List Addr} (F : Sta Z h C n d v) (K : Keep h h' ws) (q : ∀ x ∈ ws, ∃ c : Cell, h[x]? = some c ∧ c.vm.isStatics = false) : Sta Z h' C n d v := by
  obtain ⟨cf, i, k, f, st, cell, h1, h2, h3, h4, h5, h6, h7⟩ := F
  refine ⟨cf, i, k, f, st, cell, h1, h2, h3, h4, K.2.1 st cell h5 (fun hm => ?_), h6, h7⟩
  obtain ⟨c, e1, e2⟩ := q st hm
  cases e1.symm.trans h5; rw [e2] at h6; cases h6
theorem own_nsE {Z : State} {h : Heap} {a : Addr} {C : String} (F : Exa Z h a C) : ∃ c : Cell, h[a]? = some c ∧ c.vm.isStatics = false := by
  obtain ⟨c, k, h1, h2, h3, h4, h5⟩ := F; exact ⟨c, h1, h4⟩
theorem own_nsV {Z : State} {h : Heap} {a : Addr} {k : ClassId} {ty : FieldType} {n : Int32} {vs : List Value} {d : Value} (F : Arv Z h a k ty n vs d) : ∃ c : Cell, h[a]? = some c ∧ c.vm.isStatics = false := by
  obtain ⟨c, A, r⟩ := F; exact ⟨c, A.1, A.plain⟩
theorem own_fldI {s : State} {args : Array Value} {t : Term} {a : Addr} {C n d : String} {k : Int32} (ev : t.eval args s none [] s = some (.ref a)) (h : (Cond.eq (.field t C n d) (.int k)).value args s none s [] = some true) : Fld s s.heap a C n d (.int k) := by
  obtain ⟨x, y, h1, h2, k1, k2⟩ := cmp_v (Or.inl h)
  obtain rfl : y = .int k := (Option.some.inj h2).symm
  obtain ⟨z, rfl⟩ := k2
  have e1 : (Cond.eq (.field t C n d) (.int k)).value args s none s [] = some (decide (z = k)) := by simp [Cond.value, h1, h2]
  have e2 : z = k := gotT e1 h
  subst e2
  rw [fld_at ev] at h1
  exact Fld.start h1
theorem own_fldR {s : State} {args : Array Value} {t u : Term} {a b : Addr} {C n d : String} (ev : t.eval args s none [] s = some (.ref a)) (eu : u.eval args s none [] s = some (.ref b)) (h : (Cond.eq (.field t C n d) u).value args s none s [] = some true) : Fld s s.heap a C n d (.ref b) := by
  obtain ⟨x, y, h1, h2, k1, k2⟩ := cmp_v (Or.inl h)
  obtain rfl : y = .ref b := Option.some.inj (h2.symm.trans eu)
  have hx : x.isRef = true := k2.2
  have e2 : x = .ref b := gotT (eq_R h1 h2 hx rfl) h
  subst e2
  rw [fld_at ev] at h1
  exact Fld.start h1
def Pins (Z : State) (h : Heap) (w : Nat → Addr) : Prop := Sta Z h "com/example/proxybus/proxybus/model/TransactionKind" "LBMP_IMPORT" "Lcom/example/proxybus/proxybus/model/TransactionKind;" (.ref (w 0)) ∧ Exa Z h (w 0) "com/example/proxybus/proxybus/model/TransactionKind" ∧ Sta Z h "com/example/proxybus/proxybus/model/TransactionKind" "LBMP_EXPORT" "Lcom/example/proxybus/proxybus/model/TransactionKind;" (.ref (w 1)) ∧ Exa Z h (w 1) "com/example/proxybus/proxybus/model/TransactionKind" ∧ Sta Z h "com/example/proxybus/proxybus/model/TransactionKind" "IMPORT" "Lcom/example/proxybus/proxybus/model/TransactionKind;" (.ref (w 2)) ∧ Exa Z h (w 2) "com/example/proxybus/proxybus/model/TransactionKind" ∧ Sta Z h "com/example/proxybus/proxybus/model/TransactionKind" "EXPORT" "Lcom/example/proxybus/proxybus/model/TransactionKind;" (.ref (w 3)) ∧ Exa Z h (w 3) "com/example/proxybus/proxybus/model/TransactionKind" ∧ Sta Z h "com/example/proxybus/proxybus/model/TransactionKind" "WHEEL" "Lcom/example/proxybus/proxybus/model/TransactionKind;" (.ref (w 4)) ∧ Exa Z h (w 4) "com/example/proxybus/proxybus/model/TransactionKind" ∧ Sta Z h "com/example/proxybus/proxybus/model/TransactionKind" "INTERNAL" "Lcom/example/proxybus/proxybus/model/TransactionKind;" (.ref (w 5)) ∧ Exa Z h (w 5) "com/example/proxybus/proxybus/model/TransactionKind" ∧ Fld Z h (w 3) "java/lang/Enum" "ordinal" "I" (.int (3 : Int32)) ∧ Fld Z h (w 0) "java/lang/Enum" "ordinal" "I" (.int (0 : Int32)) ∧ Fld Z h (w 1) "java/lang/Enum" "ordinal" "I" (.int (1 : Int32)) ∧ Fld Z h (w 2) "java/lang/Enum" "ordinal" "I" (.int (2 : Int32)) ∧ Fld Z h (w 5) "java/lang/Enum" "ordinal" "I" (.int (5 : Int32)) ∧ Fld Z h (w 4) "java/lang/Enum" "ordinal" "I" (.int (4 : Int32))
theorem own_ne_3_0 {Z : State} {h : Heap} {w : Nat → Addr} (P : Pins Z h w) : w 3 ≠ w 0 := Fld.ne P.2.2.2.2.2.2.2.2.2.2.2.2.1 P.2.2.2.2.2.2.2.2.2.2.2.2.2.1 (fun q => absurd (Value.int.inj q) (by decide))
theorem own_ne_3_1 {Z : State} {h : Heap} {w : Nat → Addr} (P : Pins Z h w) : w 3 ≠ w 1 := Fld.ne P.2.2.2.2.2.2.2.2.2.2.2.2.1 P.2.2.2.2.2.2.2.2.2.2.2.2.2.2.1 (fun q => absurd (Value.int.inj q) (by decide))
theorem own_ne_3_2 {Z : State} {h : Heap} {w : Nat → Addr} (P : Pins Z h w) : w 3 ≠ w 2 := Fld.ne P.2.2.2.2.2.2.2.2.2.2.2.2.1 P.2.2.2.2.2.2.2.2.2.2.2.2.2.2.2.1 (fun q => absurd (Value.int.inj q) (by decide))
theorem own_ne_3_5 {Z : State} {h : Heap} {w : Nat → Addr} (P : Pins Z h w) : w 3 ≠ w 5 := Fld.ne P.2.2.2.2.2.2.2.2.2.2.2.2.1 P.2.2.2.2.2.2.2.2.2.2.2.2.2.2.2.2.1 (fun q => absurd (Value.int.inj q) (by decide))
theorem own_ne_3_4 {Z : State} {h : Heap} {w : Nat → Addr} (P : Pins Z h w) : w 3 ≠ w 4 := Fld.ne P.2.2.2.2.2.2.2.2.2.2.2.2.1 P.2.2.2.2.2.2.2.2.2.2.2.2.2.2.2.2.2 (fun q => absurd (Value.int.inj q) (by decide))
theorem own_ne_0_1 {Z : State} {h : Heap} {w : Nat → Addr} (P : Pins Z h w) : w 0 ≠ w 1 := Fld.ne P.2.2.2.2.2.2.2.2.2.2.2.2.2.1 P.2.2.2.2.2.2.2.2.2.2.2.2.2.2.1 (fun q => absurd (Value.int.inj q) (by decide))
theorem own_ne_0_2 {Z : State} {h : Heap} {w : Nat → Addr} (P : Pins Z h w) : w 0 ≠ w 2 := Fld.ne P.2.2.2.2.2.2.2.2.2.2.2.2.2.1 P.2.2.2.2.2.2.2.2.2.2.2.2.2.2.2.1 (fun q => absurd (Value.int.inj q) (by decide))
theorem own_ne_0_5 {Z : State} {h : Heap} {w : Nat → Addr} (P : Pins Z h w) : w 0 ≠ w 5 := Fld.ne P.2.2.2.2.2.2.2.2.2.2.2.2.2.1 P.2.2.2.2.2.2.2.2.2.2.2.2.2.2.2.2.1 (fun q => absurd (Value.int.inj q) (by decide))
theorem own_ne_0_4 {Z : State} {h : Heap} {w : Nat → Addr} (P : Pins Z h w) : w 0 ≠ w 4 := Fld.ne P.2.2.2.2.2.2.2.2.2.2.2.2.2.1 P.2.2.2.2.2.2.2.2.2.2.2.2.2.2.2.2.2 (fun q => absurd (Value.int.inj q) (by decide))
theorem own_ne_1_2 {Z : State} {h : Heap} {w : Nat → Addr} (P : Pins Z h w) : w 1 ≠ w 2 := Fld.ne P.2.2.2.2.2.2.2.2.2.2.2.2.2.2.1 P.2.2.2.2.2.2.2.2.2.2.2.2.2.2.2.1 (fun q => absurd (Value.int.inj q) (by decide))
theorem own_ne_1_5 {Z : State} {h : Heap} {w : Nat → Addr} (P : Pins Z h w) : w 1 ≠ w 5 := Fld.ne P.2.2.2.2.2.2.2.2.2.2.2.2.2.2.1 P.2.2.2.2.2.2.2.2.2.2.2.2.2.2.2.2.1 (fun q => absurd (Value.int.inj q) (by decide))
theorem own_ne_1_4 {Z : State} {h : Heap} {w : Nat → Addr} (P : Pins Z h w) : w 1 ≠ w 4 := Fld.ne P.2.2.2.2.2.2.2.2.2.2.2.2.2.2.1 P.2.2.2.2.2.2.2.2.2.2.2.2.2.2.2.2.2 (fun q => absurd (Value.int.inj q) (by decide))
theorem own_ne_2_5 {Z : State} {h : Heap} {w : Nat → Addr} (P : Pins Z h w) : w 2 ≠ w 5 := Fld.ne P.2.2.2.2.2.2.2.2.2.2.2.2.2.2.2.1 P.2.2.2.2.2.2.2.2.2.2.2.2.2.2.2.2.1 (fun q => absurd (Value.int.inj q) (by decide))
theorem own_ne_2_4 {Z : State} {h : Heap} {w : Nat → Addr} (P : Pins Z h w) : w 2 ≠ w 4 := Fld.ne P.2.2.2.2.2.2.2.2.2.2.2.2.2.2.2.1 P.2.2.2.2.2.2.2.2.2.2.2.2.2.2.2.2.2 (fun q => absurd (Value.int.inj q) (by decide))
theorem own_ne_5_4 {Z : State} {h : Heap} {w : Nat → Addr} (P : Pins Z h w) : w 5 ≠ w 4 := Fld.ne P.2.2.2.2.2.2.2.2.2.2.2.2.2.2.2.2.1 P.2.2.2.2.2.2.2.2.2.2.2.2.2.2.2.2.2 (fun q => absurd (Value.int.inj q) (by decide))
theorem own_split (x : Int32) : ((x &&& (2147483647 : Int32)) % (6 : Int32)) = (0 : Int32) ∨ ((x &&& (2147483647 : Int32)) % (6 : Int32)) = (1 : Int32) ∨ ((x &&& (2147483647 : Int32)) % (6 : Int32)) = (2 : Int32) ∨ ((x &&& (2147483647 : Int32)) % (6 : Int32)) = (3 : Int32) ∨ ((x &&& (2147483647 : Int32)) % (6 : Int32)) = (4 : Int32) ∨ ((x &&& (2147483647 : Int32)) % (6 : Int32)) = (5 : Int32) := by
  have e1 : (x &&& (2147483647 : Int32)).toInt = x.toInt % 2 ^ 31 := Jvm.Kit.i32_mask x (2147483647 : Int32) (k := 31) (by decide) (by decide)
  have e2 : (((x &&& (2147483647 : Int32)) % (6 : Int32))).toInt = (x &&& (2147483647 : Int32)).toInt % (6 : Int32).toInt := Jvm.Kit.i32_rem_nonneg (by omega)
  rw [show (6 : Int32).toInt = 6 from by decide] at e2
  simp only [← Int32.toInt_inj]
  rw [show (0 : Int32).toInt = 0 from by decide, show (1 : Int32).toInt = 1 from by decide, show (2 : Int32).toInt = 2 from by decide, show (3 : Int32).toInt = 3 from by decide, show (4 : Int32).toInt = 4 from by decide, show (5 : Int32).toInt = 5 from by decide]
  omega
theorem d1_0 : decode prog_54_method_2_code 0 = .ok (.aload_n 0, 1) := by decide +kernel
theorem d1_1 : decode prog_54_method_2_code 1 = .ok (.getstatic 7, 3) := by decide +kernel
theorem d1_4 : decode prog_54_method_2_code 4 = .ok (.if_acmp .eq 10, 3) := by decide +kernel
theorem d1_14 : decode prog_54_method_2_code 14 = .ok (.iconst 1, 1) := by decide +kernel
theorem d1_15 : decode prog_54_method_2_code 15 = .ok (.goto 4, 3) := by decide +kernel
theorem d1_19 : decode prog_54_method_2_code 19 = .ok (.ireturn, 1) := by decide +kernel
theorem ef1_R (m : MethodId) (x0 : Addr) : entryFrame m #[(.ref x0)] 1 = mkF m 0 #[.val (.ref x0)] [] := by first | (simp [entryFrame, mkF, argsToLocals, Value.category]; done) | rfl
theorem pn0 : plainName "com/example/proxybus/proxybus/settlement/LbmpFlow" = true := by first | (simp [plainName, overriddenIn]; done) | decide +kernel
theorem pd0 : parseMethodDescriptor "(Lcom/example/proxybus/proxybus/model/TransactionKind;)Z" = some ⟨[(.object "com/example/proxybus/proxybus/model/TransactionKind")], some .boolean⟩ := by decide +kernel
theorem d1_7 : decode prog_54_method_2_code 7 = .ok (.aload_n 0, 1) := by decide +kernel
theorem d1_8 : decode prog_54_method_2_code 8 = .ok (.getstatic 13, 3) := by decide +kernel
theorem d1_11 : decode prog_54_method_2_code 11 = .ok (.if_acmp .ne 7, 3) := by decide +kernel
theorem d1_18 : decode prog_54_method_2_code 18 = .ok (.iconst 0, 1) := by decide +kernel
theorem ef0_I (m : MethodId) (x0 : Int32) : entryFrame m #[(.int x0)] maxLocals = mkF m 0 #[.val (.int x0), .unset, .unset, .unset] [] := by first | (simp [entryFrame, mkF, argsToLocals, Value.category, maxLocals]; done) | rfl
theorem pn1 : plainName "com/example/proxybus/proxybus/settlement/LbmpFlowIsLbmpPinLaw" = true := by first | (simp [plainName, overriddenIn]; done) | decide +kernel
def Q_r1_40 (Z : State) (w : Nat → Addr) (h0 : Heap) (n0 : Nat) (v : Option Value) (h : Heap) (L : List Loc) : Prop := (v = some (.int (1 : Int32)) ∧ Fr n0 L ∧ h = h0)
set_option maxRecDepth 65536 in
set_option maxHeartbeats 40000000 in
theorem r1_40 (l : Launch) (Z : State) (a0 : Array Value) (hw : ∀ d ∈ tables_1, d.before a0 Z = true) (ws : List Jvm.Cond) (h0 : Heap) (n0 : Nat) (Z0 : n0 ≤ h0.size) (w : Nat → Addr) (u41_0 : Sta Z h0 "com/example/proxybus/proxybus/model/TransactionKind" "LBMP_IMPORT" "Lcom/example/proxybus/proxybus/model/TransactionKind;" (.ref (w 0)))  :
    MetFree l (⟨"com/example/proxybus/proxybus/settlement/LbmpFlow", "isLbmp", "(Lcom/example/proxybus/proxybus/model/TransactionKind;)Z"⟩ : MethodName) (head1 (Jvm.Cond.code (⟨"com/example/proxybus/proxybus/settlement/LbmpFlow", "isLbmp", "(Lcom/example/proxybus/proxybus/model/TransactionKind;)Z"⟩ : MethodName) prog_54_method_2_code 1 (some .boolean) :: ws) ({ frames := 0, cells := 0, slots := 0, locals := 0 } : Room)) (fun a U => a = #[(.ref (w 0))] ∧ Z.Warmed39 U.vm ∧ U.heap = h0) (fun _ _ _ _ _ => True) (fun _ U o U' => ∃ v L, o = .returned v ∧ Q_r1_40 Z w h0 n0 v U'.heap L ∧ FrameEnd U o U' L ({ frames := 0, cells := 0, slots := 0, locals := 0 } : Room).cells ({ frames := 0, cells := 0, slots := 0, locals := 0 } : Room).slots) := by
  refine MetFree.of_bodySF (plainFor_of_name pn0) hisR ?_
  intro p e s m args below meth c s₁ Bd hml0 hP hK
  obtain ⟨rfl, hZ, hh⟩ := hP
  have hx := Bd.exec
  have hby := Bd.bytes
  have hml : c.maxLocals = 1 := hml0
  have hown : s.vm.findClass "com/example/proxybus/proxybus/settlement/LbmpFlow" = some m.cls := findClass_of_methodNamed Bd.named
  have hnm := (name_of_methodNamed Bd.named Bd.method).1
  have X0 : Stand p l e ({ frames := 0, cells := 0, slots := 0, locals := 0 } : Room) s m #[(.ref (w 0))] below meth c s₁ [] 0 0 := Stand.of_body Bd
  have e0 : s₁.heap = h0 := by rw [← hh, Bd.state]; rfl
  have N0 := Fr.nil n0
  refine Goes.out (Goes.by (fun t k => castTop (ef1_R m ((w 0))) k) ?_)
  show Goes p e below (s₁.setTop (mkF m 0 #[.val (.ref (w 0))] [])) _
  refine Goes.by (fun _ k => XS.aloadN X0.here hx rfl (hb hby d1_0) rfl rfl k) ?_
  obtain ⟨T43, X43, e43, st43⟩ := getS2 X0 hx hZ hown (host := "") (Or.inl (hw _ (List.mem_of_getElem? (i := 22) rfl))) Via.refl e0 u41_0 (g := (mkF m 1 #[.val (.ref (w 0))] [(.ref (w 0))])) rfl (hb hby d1_1)
  refine Goes.by st43 ?_
  refine Goes.by (fun _ k => Jvm.RoadKit.acmp (g := (mkF m 4 #[.val (.ref (w 0))] [(.ref (w 0)), (.ref (w 0))])) X43 hx rfl rfl rfl (pc0 := 4) (pc' := 14) (same := true) rfl (hb hby d1_4) rfl (decide_eq_true rfl) (by decide) (by decide) (XS.iconst X43.here hx rfl (hb hby d1_14) (XS.goto X43.here hx rfl (pc0 := 15) (pc' := 19) rfl (hb hby d1_15) (by decide) (by decide) k))) ?_
  show Goes p e below (T43.setTop (mkF m 19 #[.val (.ref (w 0))] [(.int (1 : Int32))])) _
  obtain ⟨fs, hr, hrun, hended, hW, hsame⟩ := X43.leave (v := some (.int (1 : Int32))) (fun h => by rw [Bd.returns] at h; cases h)
  exact ⟨_, _, retN X43 hx (t := .boolean) Bd.returns (by simp) (hb hby d1_19) hr, hrun, hended, _, _, rfl, ⟨rfl, N0, e43⟩, ⟨_, rfl⟩, hW, hsame.mono (by decide) (by decide)⟩
def Q_r1_48 (Z : State) (w : Nat → Addr) (h0 : Heap) (n0 : Nat) (v : Option Value) (h : Heap) (L : List Loc) : Prop := (v = some (.int (1 : Int32)) ∧ Fr n0 L ∧ h = h0)
set_option maxRecDepth 65536 in
set_option maxHeartbeats 40000000 in
theorem r1_48 (l : Launch) (Z : State) (a0 : Array Value) (hw : ∀ d ∈ tables_1, d.before a0 Z = true) (ws : List Jvm.Cond) (h0 : Heap) (n0 : Nat) (Z0 : n0 ≤ h0.size) (w : Nat → Addr) (u49_0 : Sta Z h0 "com/example/proxybus/proxybus/model/TransactionKind" "LBMP_IMPORT" "Lcom/example/proxybus/proxybus/model/TransactionKind;" (.ref (w 0))) (u49_2 : Sta Z h0 "com/example/proxybus/proxybus/model/TransactionKind" "LBMP_EXPORT" "Lcom/example/proxybus/proxybus/model/TransactionKind;" (.ref (w 1))) (pne_0_1 : (w 0) ≠ (w 1)) :
    MetFree l (⟨"com/example/proxybus/proxybus/settlement/LbmpFlow", "isLbmp", "(Lcom/example/proxybus/proxybus/model/TransactionKind;)Z"⟩ : MethodName) (head1 (Jvm.Cond.code (⟨"com/example/proxybus/proxybus/settlement/LbmpFlow", "isLbmp", "(Lcom/example/proxybus/proxybus/model/TransactionKind;)Z"⟩ : MethodName) prog_54_method_2_code 1 (some .boolean) :: ws) ({ frames := 0, cells := 0, slots := 0, locals := 0 } : Room)) (fun a U => a = #[(.ref (w 1))] ∧ Z.Warmed39 U.vm ∧ U.heap = h0) (fun _ _ _ _ _ => True) (fun _ U o U' => ∃ v L, o = .returned v ∧ Q_r1_48 Z w h0 n0 v U'.heap L ∧ FrameEnd U o U' L ({ frames := 0, cells := 0, slots := 0, locals := 0 } : Room).cells ({ frames := 0, cells := 0, slots := 0, locals := 0 } : Room).slots) := by
  refine MetFree.of_bodySF (plainFor_of_name pn0) hisR ?_
  intro p e s m args below meth c s₁ Bd hml0 hP hK
  obtain ⟨rfl, hZ, hh⟩ := hP
  have hx := Bd.exec
  have hby := Bd.bytes
  have hml : c.maxLocals = 1 := hml0
  have hown : s.vm.findClass "com/example/proxybus/proxybus/settlement/LbmpFlow" = some m.cls := findClass_of_methodNamed Bd.named
  have hnm := (name_of_methodNamed Bd.named Bd.method).1
  have X0 : Stand p l e ({ frames := 0, cells := 0, slots := 0, locals := 0 } : Room) s m #[(.ref (w 1))] below meth c s₁ [] 0 0 := Stand.of_body Bd
  have e0 : s₁.heap = h0 := by rw [← hh, Bd.state]; rfl
  have N0 := Fr.nil n0
  refine Goes.out (Goes.by (fun t k => castTop (ef1_R m ((w 1))) k) ?_)
  show Goes p e below (s₁.setTop (mkF m 0 #[.val (.ref (w 1))] [])) _
  refine Goes.by (fun _ k => XS.aloadN X0.here hx rfl (hb hby d1_0) rfl rfl k) ?_
  obtain ⟨T51, X51, e51, st51⟩ := getS2 X0 hx hZ hown (host := "") (Or.inl (hw _ (List.mem_of_getElem? (i := 22) rfl))) Via.refl e0 u49_0 (g := (mkF m 1 #[.val (.ref (w 1))] [(.ref (w 1))])) rfl (hb hby d1_1)
  refine Goes.by st51 ?_
  refine Goes.by (fun _ k => Jvm.RoadKit.acmp (g := (mkF m 4 #[.val (.ref (w 1))] [(.ref (w 0)), (.ref (w 1))])) X51 hx rfl rfl rfl (pc0 := 4) (pc' := 7) (same := false) rfl (hb hby d1_4) rfl (decide_eq_false fun q => (Ne.symm pne_0_1) (Value.ref.inj q)) (by decide) (by decide) (XS.aloadN X51.here hx rfl (hb hby d1_7) rfl rfl k)) ?_
  obtain ⟨T52, X52, e52, st52⟩ := getS2 X51 hx hZ hown (host := "") (Or.inl (hw _ (List.mem_of_getElem? (i := 23) rfl))) Via.refl e51 u49_2 (g := (mkF m 8 #[.val (.ref (w 1))] [(.ref (w 1))])) rfl (hb hby d1_8)
  refine Goes.by st52 ?_
  refine Goes.by (fun _ k => Jvm.RoadKit.acmp (g := (mkF m 11 #[.val (.ref (w 1))] [(.ref (w 1)), (.ref (w 1))])) X52 hx rfl rfl rfl (pc0 := 11) (pc' := 14) (same := true) rfl (hb hby d1_11) rfl (decide_eq_true rfl) (by decide) (by decide) (XS.iconst X52.here hx rfl (hb hby d1_14) (XS.goto X52.here hx rfl (pc0 := 15) (pc' := 19) rfl (hb hby d1_15) (by decide) (by decide) k))) ?_
  show Goes p e below (T52.setTop (mkF m 19 #[.val (.ref (w 1))] [(.int (1 : Int32))])) _
  obtain ⟨fs, hr, hrun, hended, hW, hsame⟩ := X52.leave (v := some (.int (1 : Int32))) (fun h => by rw [Bd.returns] at h; cases h)
  exact ⟨_, _, retN X52 hx (t := .boolean) Bd.returns (by simp) (hb hby d1_19) hr, hrun, hended, _, _, rfl, ⟨rfl, N0, e52⟩, ⟨_, rfl⟩, hW, hsame.mono (by decide) (by decide)⟩
def Q_r1_58 (Z : State) (w : Nat → Addr) (h0 : Heap) (n0 : Nat) (v : Option Value) (h : Heap) (L : List Loc) : Prop := (v = some (.int (0 : Int32)) ∧ Fr n0 L ∧ h = h0)
set_option maxRecDepth 65536 in
set_option maxHeartbeats 40000000 in
theorem r1_58 (l : Launch) (Z : State) (a0 : Array Value) (hw : ∀ d ∈ tables_1, d.before a0 Z = true) (ws : List Jvm.Cond) (h0 : Heap) (n0 : Nat) (Z0 : n0 ≤ h0.size) (w : Nat → Addr) (u59_0 : Sta Z h0 "com/example/proxybus/proxybus/model/TransactionKind" "LBMP_IMPORT" "Lcom/example/proxybus/proxybus/model/TransactionKind;" (.ref (w 0))) (u59_2 : Sta Z h0 "com/example/proxybus/proxybus/model/TransactionKind" "LBMP_EXPORT" "Lcom/example/proxybus/proxybus/model/TransactionKind;" (.ref (w 1))) (pne_0_2 : (w 0) ≠ (w 2)) (pne_1_2 : (w 1) ≠ (w 2)) :
    MetFree l (⟨"com/example/proxybus/proxybus/settlement/LbmpFlow", "isLbmp", "(Lcom/example/proxybus/proxybus/model/TransactionKind;)Z"⟩ : MethodName) (head1 (Jvm.Cond.code (⟨"com/example/proxybus/proxybus/settlement/LbmpFlow", "isLbmp", "(Lcom/example/proxybus/proxybus/model/TransactionKind;)Z"⟩ : MethodName) prog_54_method_2_code 1 (some .boolean) :: ws) ({ frames := 0, cells := 0, slots := 0, locals := 0 } : Room)) (fun a U => a = #[(.ref (w 2))] ∧ Z.Warmed39 U.vm ∧ U.heap = h0) (fun _ _ _ _ _ => True) (fun _ U o U' => ∃ v L, o = .returned v ∧ Q_r1_58 Z w h0 n0 v U'.heap L ∧ FrameEnd U o U' L ({ frames := 0, cells := 0, slots := 0, locals := 0 } : Room).cells ({ frames := 0, cells := 0, slots := 0, locals := 0 } : Room).slots) := by
  refine MetFree.of_bodySF (plainFor_of_name pn0) hisR ?_
  intro p e s m args below meth c s₁ Bd hml0 hP hK
  obtain ⟨rfl, hZ, hh⟩ := hP
  have hx := Bd.exec
  have hby := Bd.bytes
  have hml : c.maxLocals = 1 := hml0
  have hown : s.vm.findClass "com/example/proxybus/proxybus/settlement/LbmpFlow" = some m.cls := findClass_of_methodNamed Bd.named
  have hnm := (name_of_methodNamed Bd.named Bd.method).1
  have X0 : Stand p l e ({ frames := 0, cells := 0, slots := 0, locals := 0 } : Room) s m #[(.ref (w 2))] below meth c s₁ [] 0 0 := Stand.of_body Bd
  have e0 : s₁.heap = h0 := by rw [← hh, Bd.state]; rfl
  have N0 := Fr.nil n0
  refine Goes.out (Goes.by (fun t k => castTop (ef1_R m ((w 2))) k) ?_)
  show Goes p e below (s₁.setTop (mkF m 0 #[.val (.ref (w 2))] [])) _
  refine Goes.by (fun _ k => XS.aloadN X0.here hx rfl (hb hby d1_0) rfl rfl k) ?_
  obtain ⟨T61, X61, e61, st61⟩ := getS2 X0 hx hZ hown (host := "") (Or.inl (hw _ (List.mem_of_getElem? (i := 22) rfl))) Via.refl e0 u59_0 (g := (mkF m 1 #[.val (.ref (w 2))] [(.ref (w 2))])) rfl (hb hby d1_1)
  refine Goes.by st61 ?_
  refine Goes.by (fun _ k => Jvm.RoadKit.acmp (g := (mkF m 4 #[.val (.ref (w 2))] [(.ref (w 0)), (.ref (w 2))])) X61 hx rfl rfl rfl (pc0 := 4) (pc' := 7) (same := false) rfl (hb hby d1_4) rfl (decide_eq_false fun q => (Ne.symm pne_0_2) (Value.ref.inj q)) (by decide) (by decide) (XS.aloadN X61.here hx rfl (hb hby d1_7) rfl rfl k)) ?_
  obtain ⟨T62, X62, e62, st62⟩ := getS2 X61 hx hZ hown (host := "") (Or.inl (hw _ (List.mem_of_getElem? (i := 23) rfl))) Via.refl e61 u59_2 (g := (mkF m 8 #[.val (.ref (w 2))] [(.ref (w 2))])) rfl (hb hby d1_8)
  refine Goes.by st62 ?_
  refine Goes.by (fun _ k => Jvm.RoadKit.acmp (g := (mkF m 11 #[.val (.ref (w 2))] [(.ref (w 1)), (.ref (w 2))])) X62 hx rfl rfl rfl (pc0 := 11) (pc' := 18) (same := false) rfl (hb hby d1_11) rfl (decide_eq_false fun q => (Ne.symm pne_1_2) (Value.ref.inj q)) (by decide) (by decide) (XS.iconst X62.here hx rfl (hb hby d1_18) k)) ?_
  show Goes p e below (T62.setTop (mkF m 19 #[.val (.ref (w 2))] [(.int (0 : Int32))])) _
  obtain ⟨fs, hr, hrun, hended, hW, hsame⟩ := X62.leave (v := some (.int (0 : Int32))) (fun h => by rw [Bd.returns] at h; cases h)
  exact ⟨_, _, retN X62 hx (t := .boolean) Bd.returns (by simp) (hb hby d1_19) hr, hrun, hended, _, _, rfl, ⟨rfl, N0, e62⟩, ⟨_, rfl⟩, hW, hsame.mono (by decide) (by decide)⟩
def Q_r1_68 (Z : State) (w : Nat → Addr) (h0 : Heap) (n0 : Nat) (v : Option Value) (h : Heap) (L : List Loc) : Prop := (v = some (.int (0 : Int32)) ∧ Fr n0 L ∧ h = h0)
set_option maxRecDepth 65536 in
set_option maxHeartbeats 40000000 in
theorem r1_68 (l : Launch) (Z : State) (a0 : Array Value) (hw : ∀ d ∈ tables_1, d.before a0 Z = true) (ws : List Jvm.Cond) (h0 : Heap) (n0 : Nat) (Z0 : n0 ≤ h0.size) (w : Nat → Addr) (u69_0 : Sta Z h0 "com/example/proxybus/proxybus/model/TransactionKind" "LBMP_IMPORT" "Lcom/example/proxybus/proxybus/model/TransactionKind;" (.ref (w 0))) (u69_2 : Sta Z h0 "com/example/proxybus/proxybus/model/TransactionKind" "LBMP_EXPORT" "Lcom/example/proxybus/proxybus/model/TransactionKind;" (.ref (w 1))) (pne_3_0 : (w 3) ≠ (w 0)) (pne_3_1 : (w 3) ≠ (w 1)) :
    MetFree l (⟨"com/example/proxybus/proxybus/settlement/LbmpFlow", "isLbmp", "(Lcom/example/proxybus/proxybus/model/TransactionKind;)Z"⟩ : MethodName) (head1 (Jvm.Cond.code (⟨"com/example/proxybus/proxybus/settlement/LbmpFlow", "isLbmp", "(Lcom/example/proxybus/proxybus/model/TransactionKind;)Z"⟩ : MethodName) prog_54_method_2_code 1 (some .boolean) :: ws) ({ frames := 0, cells := 0, slots := 0, locals := 0 } : Room)) (fun a U => a = #[(.ref (w 3))] ∧ Z.Warmed39 U.vm ∧ U.heap = h0) (fun _ _ _ _ _ => True) (fun _ U o U' => ∃ v L, o = .returned v ∧ Q_r1_68 Z w h0 n0 v U'.heap L ∧ FrameEnd U o U' L ({ frames := 0, cells := 0, slots := 0, locals := 0 } : Room).cells ({ frames := 0, cells := 0, slots := 0, locals := 0 } : Room).slots) := by
  refine MetFree.of_bodySF (plainFor_of_name pn0) hisR ?_
  intro p e s m args below meth c s₁ Bd hml0 hP hK
  obtain ⟨rfl, hZ, hh⟩ := hP
  have hx := Bd.exec
  have hby := Bd.bytes
  have hml : c.maxLocals = 1 := hml0
  have hown : s.vm.findClass "com/example/proxybus/proxybus/settlement/LbmpFlow" = some m.cls := findClass_of_methodNamed Bd.named
  have hnm := (name_of_methodNamed Bd.named Bd.method).1
  have X0 : Stand p l e ({ frames := 0, cells := 0, slots := 0, locals := 0 } : Room) s m #[(.ref (w 3))] below meth c s₁ [] 0 0 := Stand.of_body Bd
  have e0 : s₁.heap = h0 := by rw [← hh, Bd.state]; rfl
  have N0 := Fr.nil n0
  refine Goes.out (Goes.by (fun t k => castTop (ef1_R m ((w 3))) k) ?_)
  show Goes p e below (s₁.setTop (mkF m 0 #[.val (.ref (w 3))] [])) _
  refine Goes.by (fun _ k => XS.aloadN X0.here hx rfl (hb hby d1_0) rfl rfl k) ?_
  obtain ⟨T71, X71, e71, st71⟩ := getS2 X0 hx hZ hown (host := "") (Or.inl (hw _ (List.mem_of_getElem? (i := 22) rfl))) Via.refl e0 u69_0 (g := (mkF m 1 #[.val (.ref (w 3))] [(.ref (w 3))])) rfl (hb hby d1_1)
  refine Goes.by st71 ?_
  refine Goes.by (fun _ k => Jvm.RoadKit.acmp (g := (mkF m 4 #[.val (.ref (w 3))] [(.ref (w 0)), (.ref (w 3))])) X71 hx rfl rfl rfl (pc0 := 4) (pc' := 7) (same := false) rfl (hb hby d1_4) rfl (decide_eq_false fun q => pne_3_0 (Value.ref.inj q)) (by decide) (by decide) (XS.aloadN X71.here hx rfl (hb hby d1_7) rfl rfl k)) ?_
  obtain ⟨T72, X72, e72, st72⟩ := getS2 X71 hx hZ hown (host := "") (Or.inl (hw _ (List.mem_of_getElem? (i := 23) rfl))) Via.refl e71 u69_2 (g := (mkF m 8 #[.val (.ref (w 3))] [(.ref (w 3))])) rfl (hb hby d1_8)
  refine Goes.by st72 ?_
  refine Goes.by (fun _ k => Jvm.RoadKit.acmp (g := (mkF m 11 #[.val (.ref (w 3))] [(.ref (w 1)), (.ref (w 3))])) X72 hx rfl rfl rfl (pc0 := 11) (pc' := 18) (same := false) rfl (hb hby d1_11) rfl (decide_eq_false fun q => pne_3_1 (Value.ref.inj q)) (by decide) (by decide) (XS.iconst X72.here hx rfl (hb hby d1_18) k)) ?_
  show Goes p e below (T72.setTop (mkF m 19 #[.val (.ref (w 3))] [(.int (0 : Int32))])) _
  obtain ⟨fs, hr, hrun, hended, hW, hsame⟩ := X72.leave (v := some (.int (0 : Int32))) (fun h => by rw [Bd.returns] at h; cases h)
  exact ⟨_, _, retN X72 hx (t := .boolean) Bd.returns (by simp) (hb hby d1_19) hr, hrun, hended, _, _, rfl, ⟨rfl, N0, e72⟩, ⟨_, rfl⟩, hW, hsame.mono (by decide) (by decide)⟩
def Q_r1_78 (Z : State) (w : Nat → Addr) (h0 : Heap) (n0 : Nat) (v : Option Value) (h : Heap) (L : List Loc) : Prop := (v = some (.int (0 : Int32)) ∧ Fr n0 L ∧ h = h0)
set_option maxRecDepth 65536 in
set_option maxHeartbeats 40000000 in
theorem r1_78 (l : Launch) (Z : State) (a0 : Array Value) (hw : ∀ d ∈ tables_1, d.before a0 Z = true) (ws : List Jvm.Cond) (h0 : Heap) (n0 : Nat) (Z0 : n0 ≤ h0.size) (w : Nat → Addr) (u79_0 : Sta Z h0 "com/example/proxybus/proxybus/model/TransactionKind" "LBMP_IMPORT" "Lcom/example/proxybus/proxybus/model/TransactionKind;" (.ref (w 0))) (u79_2 : Sta Z h0 "com/example/proxybus/proxybus/model/TransactionKind" "LBMP_EXPORT" "Lcom/example/proxybus/proxybus/model/TransactionKind;" (.ref (w 1))) (pne_0_4 : (w 0) ≠ (w 4)) (pne_1_4 : (w 1) ≠ (w 4)) :
    MetFree l (⟨"com/example/proxybus/proxybus/settlement/LbmpFlow", "isLbmp", "(Lcom/example/proxybus/proxybus/model/TransactionKind;)Z"⟩ : MethodName) (head1 (Jvm.Cond.code (⟨"com/example/proxybus/proxybus/settlement/LbmpFlow", "isLbmp", "(Lcom/example/proxybus/proxybus/model/TransactionKind;)Z"⟩ : MethodName) prog_54_method_2_code 1 (some .boolean) :: ws) ({ frames := 0, cells := 0, slots := 0, locals := 0 } : Room)) (fun a U => a = #[(.ref (w 4))] ∧ Z.Warmed39 U.vm ∧ U.heap = h0) (fun _ _ _ _ _ => True) (fun _ U o U' => ∃ v L, o = .returned v ∧ Q_r1_78 Z w h0 n0 v U'.heap L ∧ FrameEnd U o U' L ({ frames := 0, cells := 0, slots := 0, locals := 0 } : Room).cells ({ frames := 0, cells := 0, slots := 0, locals := 0 } : Room).slots) := by
  refine MetFree.of_bodySF (plainFor_of_name pn0) hisR ?_
  intro p e s m args below meth c s₁ Bd hml0 hP hK
  obtain ⟨rfl, hZ, hh⟩ := hP
  have hx := Bd.exec
  have hby := Bd.bytes
  have hml : c.maxLocals = 1 := hml0
  have hown : s.vm.findClass "com/example/proxybus/proxybus/settlement/LbmpFlow" = some m.cls := findClass_of_methodNamed Bd.named
  have hnm := (name_of_methodNamed Bd.named Bd.method).1
  have X0 : Stand p l e ({ frames := 0, cells := 0, slots := 0, locals := 0 } : Room) s m #[(.ref (w 4))] below meth c s₁ [] 0 0 := Stand.of_body Bd
  have e0 : s₁.heap = h0 := by rw [← hh, Bd.state]; rfl
  have N0 := Fr.nil n0
  refine Goes.out (Goes.by (fun t k => castTop (ef1_R m ((w 4))) k) ?_)
  show Goes p e below (s₁.setTop (mkF m 0 #[.val (.ref (w 4))] [])) _
  refine Goes.by (fun _ k => XS.aloadN X0.here hx rfl (hb hby d1_0) rfl rfl k) ?_
  obtain ⟨T81, X81, e81, st81⟩ := getS2 X0 hx hZ hown (host := "") (Or.inl (hw _ (List.mem_of_getElem? (i := 22) rfl))) Via.refl e0 u79_0 (g := (mkF m 1 #[.val (.ref (w 4))] [(.ref (w 4))])) rfl (hb hby d1_1)
  refine Goes.by st81 ?_
  refine Goes.by (fun _ k => Jvm.RoadKit.acmp (g := (mkF m 4 #[.val (.ref (w 4))] [(.ref (w 0)), (.ref (w 4))])) X81 hx rfl rfl rfl (pc0 := 4) (pc' := 7) (same := false) rfl (hb hby d1_4) rfl (decide_eq_false fun q => (Ne.symm pne_0_4) (Value.ref.inj q)) (by decide) (by decide) (XS.aloadN X81.here hx rfl (hb hby d1_7) rfl rfl k)) ?_
  obtain ⟨T82, X82, e82, st82⟩ := getS2 X81 hx hZ hown (host := "") (Or.inl (hw _ (List.mem_of_getElem? (i := 23) rfl))) Via.refl e81 u79_2 (g := (mkF m 8 #[.val (.ref (w 4))] [(.ref (w 4))])) rfl (hb hby d1_8)
  refine Goes.by st82 ?_
  refine Goes.by (fun _ k => Jvm.RoadKit.acmp (g := (mkF m 11 #[.val (.ref (w 4))] [(.ref (w 1)), (.ref (w 4))])) X82 hx rfl rfl rfl (pc0 := 11) (pc' := 18) (same := false) rfl (hb hby d1_11) rfl (decide_eq_false fun q => (Ne.symm pne_1_4) (Value.ref.inj q)) (by decide) (by decide) (XS.iconst X82.here hx rfl (hb hby d1_18) k)) ?_
  show Goes p e below (T82.setTop (mkF m 19 #[.val (.ref (w 4))] [(.int (0 : Int32))])) _
  obtain ⟨fs, hr, hrun, hended, hW, hsame⟩ := X82.leave (v := some (.int (0 : Int32))) (fun h => by rw [Bd.returns] at h; cases h)
  exact ⟨_, _, retN X82 hx (t := .boolean) Bd.returns (by simp) (hb hby d1_19) hr, hrun, hended, _, _, rfl, ⟨rfl, N0, e82⟩, ⟨_, rfl⟩, hW, hsame.mono (by decide) (by decide)⟩
def Q_r1_88 (Z : State) (w : Nat → Addr) (h0 : Heap) (n0 : Nat) (v : Option Value) (h : Heap) (L : List Loc) : Prop := (v = some (.int (0 : Int32)) ∧ Fr n0 L ∧ h = h0)
set_option maxRecDepth 65536 in
set_option maxHeartbeats 40000000 in
theorem r1_88 (l : Launch) (Z : State) (a0 : Array Value) (hw : ∀ d ∈ tables_1, d.before a0 Z = true) (ws : List Jvm.Cond) (h0 : Heap) (n0 : Nat) (Z0 : n0 ≤ h0.size) (w : Nat → Addr) (u89_0 : Sta Z h0 "com/example/proxybus/proxybus/model/TransactionKind" "LBMP_IMPORT" "Lcom/example/proxybus/proxybus/model/TransactionKind;" (.ref (w 0))) (u89_2 : Sta Z h0 "com/example/proxybus/proxybus/model/TransactionKind" "LBMP_EXPORT" "Lcom/example/proxybus/proxybus/model/TransactionKind;" (.ref (w 1))) (pne_0_5 : (w 0) ≠ (w 5)) (pne_1_5 : (w 1) ≠ (w 5)) :
    MetFree l (⟨"com/example/proxybus/proxybus/settlement/LbmpFlow", "isLbmp", "(Lcom/example/proxybus/proxybus/model/TransactionKind;)Z"⟩ : MethodName) (head1 (Jvm.Cond.code (⟨"com/example/proxybus/proxybus/settlement/LbmpFlow", "isLbmp", "(Lcom/example/proxybus/proxybus/model/TransactionKind;)Z"⟩ : MethodName) prog_54_method_2_code 1 (some .boolean) :: ws) ({ frames := 0, cells := 0, slots := 0, locals := 0 } : Room)) (fun a U => a = #[(.ref (w 5))] ∧ Z.Warmed39 U.vm ∧ U.heap = h0) (fun _ _ _ _ _ => True) (fun _ U o U' => ∃ v L, o = .returned v ∧ Q_r1_88 Z w h0 n0 v U'.heap L ∧ FrameEnd U o U' L ({ frames := 0, cells := 0, slots := 0, locals := 0 } : Room).cells ({ frames := 0, cells := 0, slots := 0, locals := 0 } : Room).slots) := by
  refine MetFree.of_bodySF (plainFor_of_name pn0) hisR ?_
  intro p e s m args below meth c s₁ Bd hml0 hP hK
  obtain ⟨rfl, hZ, hh⟩ := hP
  have hx := Bd.exec
  have hby := Bd.bytes
  have hml : c.maxLocals = 1 := hml0
  have hown : s.vm.findClass "com/example/proxybus/proxybus/settlement/LbmpFlow" = some m.cls := findClass_of_methodNamed Bd.named
  have hnm := (name_of_methodNamed Bd.named Bd.method).1
  have X0 : Stand p l e ({ frames := 0, cells := 0, slots := 0, locals := 0 } : Room) s m #[(.ref (w 5))] below meth c s₁ [] 0 0 := Stand.of_body Bd
  have e0 : s₁.heap = h0 := by rw [← hh, Bd.state]; rfl
  have N0 := Fr.nil n0
  refine Goes.out (Goes.by (fun t k => castTop (ef1_R m ((w 5))) k) ?_)
  show Goes p e below (s₁.setTop (mkF m 0 #[.val (.ref (w 5))] [])) _
  refine Goes.by (fun _ k => XS.aloadN X0.here hx rfl (hb hby d1_0) rfl rfl k) ?_
  obtain ⟨T91, X91, e91, st91⟩ := getS2 X0 hx hZ hown (host := "") (Or.inl (hw _ (List.mem_of_getElem? (i := 22) rfl))) Via.refl e0 u89_0 (g := (mkF m 1 #[.val (.ref (w 5))] [(.ref (w 5))])) rfl (hb hby d1_1)
  refine Goes.by st91 ?_
  refine Goes.by (fun _ k => Jvm.RoadKit.acmp (g := (mkF m 4 #[.val (.ref (w 5))] [(.ref (w 0)), (.ref (w 5))])) X91 hx rfl rfl rfl (pc0 := 4) (pc' := 7) (same := false) rfl (hb hby d1_4) rfl (decide_eq_false fun q => (Ne.symm pne_0_5) (Value.ref.inj q)) (by decide) (by decide) (XS.aloadN X91.here hx rfl (hb hby d1_7) rfl rfl k)) ?_
  obtain ⟨T92, X92, e92, st92⟩ := getS2 X91 hx hZ hown (host := "") (Or.inl (hw _ (List.mem_of_getElem? (i := 23) rfl))) Via.refl e91 u89_2 (g := (mkF m 8 #[.val (.ref (w 5))] [(.ref (w 5))])) rfl (hb hby d1_8)
  refine Goes.by st92 ?_
  refine Goes.by (fun _ k => Jvm.RoadKit.acmp (g := (mkF m 11 #[.val (.ref (w 5))] [(.ref (w 1)), (.ref (w 5))])) X92 hx rfl rfl rfl (pc0 := 11) (pc' := 18) (same := false) rfl (hb hby d1_11) rfl (decide_eq_false fun q => (Ne.symm pne_1_5) (Value.ref.inj q)) (by decide) (by decide) (XS.iconst X92.here hx rfl (hb hby d1_18) k)) ?_
  show Goes p e below (T92.setTop (mkF m 19 #[.val (.ref (w 5))] [(.int (0 : Int32))])) _
  obtain ⟨fs, hr, hrun, hended, hW, hsame⟩ := X92.leave (v := some (.int (0 : Int32))) (fun h => by rw [Bd.returns] at h; cases h)
  exact ⟨_, _, retN X92 hx (t := .boolean) Bd.returns (by simp) (hb hby d1_19) hr, hrun, hended, _, _, rfl, ⟨rfl, N0, e92⟩, ⟨_, rfl⟩, hW, hsame.mono (by decide) (by decide)⟩
set_option maxRecDepth 65536 in
set_option maxHeartbeats 40000000 in
theorem rm0 (l : Launch) (Z : State) (a0 : Array Value) (hw : ∀ d ∈ tables_1, d.before a0 Z = true) (ws : List Jvm.Cond) (h0 : Heap) (n0 : Nat) (Z0 : n0 ≤ h0.size) (p1 : Int32) (w : Nat → Addr) (P : Pins Z h0 w) :
    MetFree l x (head1 (Jvm.Cond.code x code maxLocals ret :: ws) room_1) (fun a U => a = #[(.int p1)] ∧ Z.Warmed39 U.vm ∧ U.heap = h0) (fun _ _ _ _ _ => True) (fun _ U o U' => ∃ v L, o = .returned v ∧ QL n0 v U'.heap L ∧ FrameEnd U o U' L 2 12) := by
  refine MetFree.of_bodySF (plainFor_of_name pn1) hisR ?_
  intro p e s m args below meth c s₁ Bd hml0 hP hK
  obtain ⟨rfl, hZ, hh⟩ := hP
  have hx := Bd.exec
  have hby := Bd.bytes
  have hml : c.maxLocals = 4 := hml0
  have hown : s.vm.findClass "com/example/proxybus/proxybus/settlement/LbmpFlowIsLbmpPinLaw" = some m.cls := findClass_of_methodNamed Bd.named
  have hnm := (name_of_methodNamed Bd.named Bd.method).1
  have X0 : Stand p l e room_1 s m #[(.int p1)] below meth c s₁ [] 0 0 := Stand.of_body Bd
  have e0 : s₁.heap = h0 := by rw [← hh, Bd.state]; rfl
  have N0 := Fr.nil n0
  have pne_3_0 := (own_ne_3_0 P)
  have pne_3_1 := (own_ne_3_1 P)
  have pne_3_2 := (own_ne_3_2 P)
  have pne_3_5 := (own_ne_3_5 P)
  have pne_3_4 := (own_ne_3_4 P)
  have pne_0_1 := (own_ne_0_1 P)
  have pne_0_2 := (own_ne_0_2 P)
  have pne_0_5 := (own_ne_0_5 P)
  have pne_0_4 := (own_ne_0_4 P)
  have pne_1_2 := (own_ne_1_2 P)
  have pne_1_5 := (own_ne_1_5 P)
  have pne_1_4 := (own_ne_1_4 P)
  have pne_2_5 := (own_ne_2_5 P)
  have pne_2_4 := (own_ne_2_4 P)
  have pne_5_4 := (own_ne_5_4 P)
  refine Goes.out (Goes.by (fun t k => castTop (ef0_I m p1) k) ?_)
  show Goes p e below (s₁.setTop (mkF m 0 #[.val (.int p1), .unset, .unset, .unset] [])) _
  refine Goes.by (fun _ k => XS.bipush X0.here hx rfl (hb hby at_0) k) ?_
  obtain ⟨T1, h1, k1, X1, e1, E1, A1, O1, st1⟩ := newR X0 hx hZ hown (hw _ (List.mem_of_getElem? (i := 0) rfl)) (hw _ (List.mem_of_getElem? (i := 1) rfl)) e0 (g := (mkF m 2 #[.val (.int p1), .unset, .unset, .unset] [(.int (6 : Int32))])) rfl (hb hby at_2) rfl (by decide) (cap := 6) (by decide) (by decide) (by decide) (by decide)
  obtain ⟨b1, g1⟩ : ∃ z, z = h0.size := ⟨_, rfl⟩
  rw [← g1] at A1 st1
  have ne1__w_0_ : (w 0) ≠ b1 := Nat.ne_of_lt (Nat.lt_of_lt_of_le P.2.1.lt (Nat.le_of_eq g1.symm))
  have ne1__w_1_ : (w 1) ≠ b1 := Nat.ne_of_lt (Nat.lt_of_lt_of_le P.2.2.2.1.lt (Nat.le_of_eq g1.symm))
  have ne1__w_2_ : (w 2) ≠ b1 := Nat.ne_of_lt (Nat.lt_of_lt_of_le P.2.2.2.2.2.1.lt (Nat.le_of_eq g1.symm))
  have ne1__w_3_ : (w 3) ≠ b1 := Nat.ne_of_lt (Nat.lt_of_lt_of_le P.2.2.2.2.2.2.2.1.lt (Nat.le_of_eq g1.symm))
  have ne1__w_4_ : (w 4) ≠ b1 := Nat.ne_of_lt (Nat.lt_of_lt_of_le P.2.2.2.2.2.2.2.2.2.1.lt (Nat.le_of_eq g1.symm))
  have ne1__w_5_ : (w 5) ≠ b1 := Nat.ne_of_lt (Nat.lt_of_lt_of_le P.2.2.2.2.2.2.2.2.2.2.2.1.lt (Nat.le_of_eq g1.symm))
  have g_b1 : n0 ≤ b1 := Nat.le_trans Z0 (Nat.le_of_eq g1.symm)
  have sz_b1 : h0.size ≤ b1 := Nat.le_of_eq g1.symm
  have V1 : Arv Z h1 b1 k1 (.object "com/example/proxybus/proxybus/model/TransactionKind") (6 : Int32) [.null, .null, .null, .null, .null, .null] .null := (Arv.new A1 (by decide)).pad (pad_rep [] .null 6)
  have K1 : Keep h0 h1 [] := Keep.ext (Keep.refl h0 []) E1
  have Z1 : n0 ≤ h1.size := Nat.le_trans Z0 E1.1
  refine Goes.by st1 ?_
  refine Goes.by (fun _ k => XS.dup X1.here hx rfl (hb hby at_5) rfl rfl (XS.iconst X1.here hx rfl (hb hby at_6) k)) ?_
  have f2 := (P.1.ext E1)
  obtain ⟨T3, X3, e3, st3⟩ := getS2 X1 hx hZ hown (host := "") (Or.inl (hw _ (List.mem_of_getElem? (i := 2) rfl))) Via.refl e1 f2 (g := (mkF m 7 #[.val (.int p1), .unset, .unset, .unset] [(.int (0 : Int32)), (.ref b1), (.ref b1)])) rfl (hb hby at_7)
  refine Goes.by st3 ?_
  obtain ⟨cl4, Ar4, Cq4, Sz4, Nn4, Hh4, Gg4⟩ := id V1
  have hin4 : ¬ ((0 : Int32) < 0 ∨ cl4.slots.size ≤ ((0 : Int32)).toNatClampNeg) := inb_of Sz4 ⟨by decide, by decide⟩
  have f5 := (P.2.1.ext E1)
  obtain ⟨T4, h4, X4, e4, W4, st4⟩ := stR X3 hx hZ e3 Ar4 (j := (0 : Int32)) hin4 rfl (Sto.ofV Ar4 Cq4 O1 (Ins.self f5)) (g := (mkF m 10 #[.val (.int p1), .unset, .unset, .unset] [(.ref (w 0)), (.int (0 : Int32)), (.ref b1), (.ref b1)])) rfl rfl (hb hby at_10)
  have V4 : Arv Z h4 b1 k1 (.object "com/example/proxybus/proxybus/model/TransactionKind") (6 : Int32) [(.ref (w 0)), .null, .null, .null, .null, .null] .null := Arv.set Ar4 Cq4 Sz4 Nn4 Hh4 Gg4 rfl W4 0 rfl (Nat.le_of_ble_eq_true rfl)
  have K4 : Keep h0 h4 [] := Keep.wr K1 W4 (Or.inr sz_b1)
  have Z4 : n0 ≤ h4.size := Nat.le_trans Z1 (Keep.of_wr W4).1
  have N4 := Fr.snoc X4 N0 g_b1
  refine Goes.by st4 ?_
  refine Goes.by (fun _ k => XS.dup X4.here hx rfl (hb hby at_11) rfl rfl (XS.iconst X4.here hx rfl (hb hby at_12) k)) ?_
  have f6 := (Sta.wr W4 (P.2.2.1.ext E1))
  obtain ⟨T7, X7, e7, st7⟩ := getS2 X4 hx hZ hown (host := "") (Or.inl (hw _ (List.mem_of_getElem? (i := 6) rfl))) Via.refl e4 f6 (g := (mkF m 13 #[.val (.int p1), .unset, .unset, .unset] [(.int (1 : Int32)), (.ref b1), (.ref b1)])) rfl (hb hby at_13)
  refine Goes.by st7 ?_
  obtain ⟨cl8, Ar8, Cq8, Sz8, Nn8, Hh8, Gg8⟩ := id V4
  have hin8 : ¬ ((1 : Int32) < 0 ∨ cl8.slots.size ≤ ((1 : Int32)).toNatClampNeg) := inb_of Sz8 ⟨by decide, by decide⟩
  have f9 := (Exa.wr W4 (P.2.2.2.1.ext E1))
  obtain ⟨T8, h8, X8, e8, W8, st8⟩ := stR X7 hx hZ e7 Ar8 (j := (1 : Int32)) hin8 rfl (Sto.ofV Ar8 Cq8 O1 (Ins.self f9)) (g := (mkF m 16 #[.val (.int p1), .unset, .unset, .unset] [(.ref (w 1)), (.int (1 : Int32)), (.ref b1), (.ref b1)])) rfl rfl (hb hby at_16)
  have V8 : Arv Z h8 b1 k1 (.object "com/example/proxybus/proxybus/model/TransactionKind") (6 : Int32) [(.ref (w 0)), (.ref (w 1)), .null, .null, .null, .null] .null := Arv.set Ar8 Cq8 Sz8 Nn8 Hh8 Gg8 rfl W8 1 rfl (Nat.le_of_ble_eq_true rfl)
  have K8 : Keep h0 h8 [] := Keep.wr K4 W8 (Or.inr sz_b1)
  have Z8 : n0 ≤ h8.size := Nat.le_trans Z4 (Keep.of_wr W8).1
  have N8 := Fr.snoc X8 N4 g_b1
  refine Goes.by st8 ?_
  refine Goes.by (fun _ k => XS.dup X8.here hx rfl (hb hby at_17) rfl rfl (XS.iconst X8.here hx rfl (hb hby at_18) k)) ?_
  have f10 := (Sta.wr W8 (Sta.wr W4 (P.2.2.2.2.1.ext E1)))
  obtain ⟨T11, X11, e11, st11⟩ := getS2 X8 hx hZ hown (host := "") (Or.inl (hw _ (List.mem_of_getElem? (i := 8) rfl))) Via.refl e8 f10 (g := (mkF m 19 #[.val (.int p1), .unset, .unset, .unset] [(.int (2 : Int32)), (.ref b1), (.ref b1)])) rfl (hb hby at_19)
  refine Goes.by st11 ?_
  obtain ⟨cl12, Ar12, Cq12, Sz12, Nn12, Hh12, Gg12⟩ := id V8
  have hin12 : ¬ ((2 : Int32) < 0 ∨ cl12.slots.size ≤ ((2 : Int32)).toNatClampNeg) := inb_of Sz12 ⟨by decide, by decide⟩
  have f13 := (Exa.wr W8 (Exa.wr W4 (P.2.2.2.2.2.1.ext E1)))
  obtain ⟨T12, h12, X12, e12, W12, st12⟩ := stR X11 hx hZ e11 Ar12 (j := (2 : Int32)) hin12 rfl (Sto.ofV Ar12 Cq12 O1 (Ins.self f13)) (g := (mkF m 22 #[.val (.int p1), .unset, .unset, .unset] [(.ref (w 2)), (.int (2 : Int32)), (.ref b1), (.ref b1)])) rfl rfl (hb hby at_22)
  have V12 : Arv Z h12 b1 k1 (.object "com/example/proxybus/proxybus/model/TransactionKind") (6 : Int32) [(.ref (w 0)), (.ref (w 1)), (.ref (w 2)), .null, .null, .null] .null := Arv.set Ar12 Cq12 Sz12 Nn12 Hh12 Gg12 rfl W12 2 rfl (Nat.le_of_ble_eq_true rfl)
  have K12 : Keep h0 h12 [] := Keep.wr K8 W12 (Or.inr sz_b1)
  have Z12 : n0 ≤ h12.size := Nat.le_trans Z8 (Keep.of_wr W12).1
  have N12 := Fr.snoc X12 N8 g_b1
  refine Goes.by st12 ?_
  refine Goes.by (fun _ k => XS.dup X12.here hx rfl (hb hby at_23) rfl rfl (XS.iconst X12.here hx rfl (hb hby at_24) k)) ?_
  have f14 := (Sta.wr W12 (Sta.wr W8 (Sta.wr W4 (P.2.2.2.2.2.2.1.ext E1))))
  obtain ⟨T15, X15, e15, st15⟩ := getS2 X12 hx hZ hown (host := "") (Or.inl (hw _ (List.mem_of_getElem? (i := 10) rfl))) Via.refl e12 f14 (g := (mkF m 25 #[.val (.int p1), .unset, .unset, .unset] [(.int (3 : Int32)), (.ref b1), (.ref b1)])) rfl (hb hby at_25)
  refine Goes.by st15 ?_
  obtain ⟨cl16, Ar16, Cq16, Sz16, Nn16, Hh16, Gg16⟩ := id V12
  have hin16 : ¬ ((3 : Int32) < 0 ∨ cl16.slots.size ≤ ((3 : Int32)).toNatClampNeg) := inb_of Sz16 ⟨by decide, by decide⟩
  have f17 := (Exa.wr W12 (Exa.wr W8 (Exa.wr W4 (P.2.2.2.2.2.2.2.1.ext E1))))
  obtain ⟨T16, h16, X16, e16, W16, st16⟩ := stR X15 hx hZ e15 Ar16 (j := (3 : Int32)) hin16 rfl (Sto.ofV Ar16 Cq16 O1 (Ins.self f17)) (g := (mkF m 28 #[.val (.int p1), .unset, .unset, .unset] [(.ref (w 3)), (.int (3 : Int32)), (.ref b1), (.ref b1)])) rfl rfl (hb hby at_28)
  have V16 : Arv Z h16 b1 k1 (.object "com/example/proxybus/proxybus/model/TransactionKind") (6 : Int32) [(.ref (w 0)), (.ref (w 1)), (.ref (w 2)), (.ref (w 3)), .null, .null] .null := Arv.set Ar16 Cq16 Sz16 Nn16 Hh16 Gg16 rfl W16 3 rfl (Nat.le_of_ble_eq_true rfl)
  have K16 : Keep h0 h16 [] := Keep.wr K12 W16 (Or.inr sz_b1)
  have Z16 : n0 ≤ h16.size := Nat.le_trans Z12 (Keep.of_wr W16).1
  have N16 := Fr.snoc X16 N12 g_b1
  refine Goes.by st16 ?_
  refine Goes.by (fun _ k => XS.dup X16.here hx rfl (hb hby at_29) rfl rfl (XS.iconst X16.here hx rfl (hb hby at_30) k)) ?_
  have f18 := (Sta.wr W16 (Sta.wr W12 (Sta.wr W8 (Sta.wr W4 (P.2.2.2.2.2.2.2.2.1.ext E1)))))
  obtain ⟨T19, X19, e19, st19⟩ := getS2 X16 hx hZ hown (host := "") (Or.inl (hw _ (List.mem_of_getElem? (i := 12) rfl))) Via.refl e16 f18 (g := (mkF m 31 #[.val (.int p1), .unset, .unset, .unset] [(.int (4 : Int32)), (.ref b1), (.ref b1)])) rfl (hb hby at_31)
  refine Goes.by st19 ?_
  obtain ⟨cl20, Ar20, Cq20, Sz20, Nn20, Hh20, Gg20⟩ := id V16
  have hin20 : ¬ ((4 : Int32) < 0 ∨ cl20.slots.size ≤ ((4 : Int32)).toNatClampNeg) := inb_of Sz20 ⟨by decide, by decide⟩
  have f21 := (Exa.wr W16 (Exa.wr W12 (Exa.wr W8 (Exa.wr W4 (P.2.2.2.2.2.2.2.2.2.1.ext E1)))))
  obtain ⟨T20, h20, X20, e20, W20, st20⟩ := stR X19 hx hZ e19 Ar20 (j := (4 : Int32)) hin20 rfl (Sto.ofV Ar20 Cq20 O1 (Ins.self f21)) (g := (mkF m 34 #[.val (.int p1), .unset, .unset, .unset] [(.ref (w 4)), (.int (4 : Int32)), (.ref b1), (.ref b1)])) rfl rfl (hb hby at_34)
  have V20 : Arv Z h20 b1 k1 (.object "com/example/proxybus/proxybus/model/TransactionKind") (6 : Int32) [(.ref (w 0)), (.ref (w 1)), (.ref (w 2)), (.ref (w 3)), (.ref (w 4)), .null] .null := Arv.set Ar20 Cq20 Sz20 Nn20 Hh20 Gg20 rfl W20 4 rfl (Nat.le_of_ble_eq_true rfl)
  have K20 : Keep h0 h20 [] := Keep.wr K16 W20 (Or.inr sz_b1)
  have Z20 : n0 ≤ h20.size := Nat.le_trans Z16 (Keep.of_wr W20).1
  have N20 := Fr.snoc X20 N16 g_b1
  refine Goes.by st20 ?_
  refine Goes.by (fun _ k => XS.dup X20.here hx rfl (hb hby at_35) rfl rfl (XS.iconst X20.here hx rfl (hb hby at_36) k)) ?_
  have f22 := (Sta.wr W20 (Sta.wr W16 (Sta.wr W12 (Sta.wr W8 (Sta.wr W4 (P.2.2.2.2.2.2.2.2.2.2.1.ext E1))))))
  obtain ⟨T23, X23, e23, st23⟩ := getS2 X20 hx hZ hown (host := "") (Or.inl (hw _ (List.mem_of_getElem? (i := 14) rfl))) Via.refl e20 f22 (g := (mkF m 37 #[.val (.int p1), .unset, .unset, .unset] [(.int (5 : Int32)), (.ref b1), (.ref b1)])) rfl (hb hby at_37)
  refine Goes.by st23 ?_
  obtain ⟨cl24, Ar24, Cq24, Sz24, Nn24, Hh24, Gg24⟩ := id V20
  have hin24 : ¬ ((5 : Int32) < 0 ∨ cl24.slots.size ≤ ((5 : Int32)).toNatClampNeg) := inb_of Sz24 ⟨by decide, by decide⟩
  have f25 := (Exa.wr W20 (Exa.wr W16 (Exa.wr W12 (Exa.wr W8 (Exa.wr W4 (P.2.2.2.2.2.2.2.2.2.2.2.1.ext E1))))))
  obtain ⟨T24, h24, X24, e24, W24, st24⟩ := stR X23 hx hZ e23 Ar24 (j := (5 : Int32)) hin24 rfl (Sto.ofV Ar24 Cq24 O1 (Ins.self f25)) (g := (mkF m 40 #[.val (.int p1), .unset, .unset, .unset] [(.ref (w 5)), (.int (5 : Int32)), (.ref b1), (.ref b1)])) rfl rfl (hb hby at_40)
  have V24 : Arv Z h24 b1 k1 (.object "com/example/proxybus/proxybus/model/TransactionKind") (6 : Int32) [(.ref (w 0)), (.ref (w 1)), (.ref (w 2)), (.ref (w 3)), (.ref (w 4)), (.ref (w 5))] .null := Arv.set Ar24 Cq24 Sz24 Nn24 Hh24 Gg24 rfl W24 5 rfl (Nat.le_of_ble_eq_true rfl)
  have K24 : Keep h0 h24 [] := Keep.wr K20 W24 (Or.inr sz_b1)
  have Z24 : n0 ≤ h24.size := Nat.le_trans Z20 (Keep.of_wr W24).1
  have N24 := Fr.snoc X24 N20 g_b1
  refine Goes.by st24 ?_
  refine Goes.by (fun _ k => XS.astoreN X24.here hx rfl (hb hby at_41) rfl rfl (l' := #[.val (.int p1), .val (.ref b1), .unset, .unset]) rfl (XS.bipush X24.here hx rfl (hb hby at_42) k)) ?_
  have f27 := (Exa.wr W24 (Exa.wr W20 (Exa.wr W16 (Exa.wr W12 (Exa.wr W8 (Exa.wr W4 f5))))))
  have f28 := (Exa.wr W24 (Exa.wr W20 (Exa.wr W16 (Exa.wr W12 (Exa.wr W8 f9)))))
  have f29 := (Exa.wr W24 (Exa.wr W20 (Exa.wr W16 (Exa.wr W12 f13))))
  have f30 := (Exa.wr W24 (Exa.wr W20 (Exa.wr W16 f17)))
  have f31 := (Exa.wr W24 (Exa.wr W20 f21))
  have f32 := (Exa.wr W24 f25)
  obtain ⟨T26, h26, k26, X26, e26, E26, A26, st26⟩ := newP X24 hx hZ (hw _ (List.mem_of_getElem? (i := 16) rfl)) e24 (g := (mkF m 44 #[.val (.int p1), .val (.ref b1), .unset, .unset] [(.int (6 : Int32))])) rfl (hb hby at_44) rfl (by decide) (cap := 6) (by decide) (by decide) (by decide) (by decide)
  obtain ⟨b26, g26⟩ : ∃ z, z = h24.size := ⟨_, rfl⟩
  rw [← g26] at A26 st26
  have ne26__w_0_ : (w 0) ≠ b26 := Nat.ne_of_lt (Nat.lt_of_lt_of_le f27.lt (Nat.le_of_eq g26.symm))
  have ne26__w_1_ : (w 1) ≠ b26 := Nat.ne_of_lt (Nat.lt_of_lt_of_le f28.lt (Nat.le_of_eq g26.symm))
  have ne26__w_2_ : (w 2) ≠ b26 := Nat.ne_of_lt (Nat.lt_of_lt_of_le f29.lt (Nat.le_of_eq g26.symm))
  have ne26__w_3_ : (w 3) ≠ b26 := Nat.ne_of_lt (Nat.lt_of_lt_of_le f30.lt (Nat.le_of_eq g26.symm))
  have ne26__w_4_ : (w 4) ≠ b26 := Nat.ne_of_lt (Nat.lt_of_lt_of_le f31.lt (Nat.le_of_eq g26.symm))
  have ne26__w_5_ : (w 5) ≠ b26 := Nat.ne_of_lt (Nat.lt_of_lt_of_le f32.lt (Nat.le_of_eq g26.symm))
  have ne26_b1 : b1 ≠ b26 := Nat.ne_of_lt (Nat.lt_of_lt_of_le V24.lt (Nat.le_of_eq g26.symm))
  have g_b26 : n0 ≤ b26 := Nat.le_trans Z24 (Nat.le_of_eq g26.symm)
  have sz_b26 : h0.size ≤ b26 := Nat.le_trans K24.1 (Nat.le_of_eq g26.symm)
  have V26 : Arv Z h26 b26 k26 .boolean (6 : Int32) [(.int (0 : Int32)), (.int (0 : Int32)), (.int (0 : Int32)), (.int (0 : Int32)), (.int (0 : Int32)), (.int (0 : Int32))] (.int (0 : Int32)) := (Arv.new A26 (by decide)).pad (pad_rep [] (.int (0 : Int32)) 6)
  have K26 : Keep h0 h26 [] := Keep.ext K24 E26
  have Z26 : n0 ≤ h26.size := Nat.le_trans Z24 E26.1
  refine Goes.by st26 ?_
  refine Goes.by (fun _ k => XS.dup X26.here hx rfl (hb hby at_46) rfl rfl (XS.iconst X26.here hx rfl (hb hby at_47) (XS.iconst X26.here hx rfl (hb hby at_48) k))) ?_
  obtain ⟨cl33, Ar33, Cq33, Sz33, Nn33, Hh33, Gg33⟩ := id V26
  have hin33 : ¬ ((0 : Int32) < 0 ∨ cl33.slots.size ≤ ((0 : Int32)).toNatClampNeg) := inb_of Sz33 ⟨by decide, by decide⟩
  obtain ⟨T33, h33, X33, e33, W33, st33⟩ := stZ X26 hx hZ e26 Ar33 (j := (0 : Int32)) hin33 (g := (mkF m 49 #[.val (.int p1), .val (.ref b1), .unset, .unset] [(.int (1 : Int32)), (.int (0 : Int32)), (.ref b26), (.ref b26)])) rfl rfl (hb hby at_49)
  have V33 : Arv Z h33 b26 k26 .boolean (6 : Int32) [(.int (1 : Int32)), (.int (0 : Int32)), (.int (0 : Int32)), (.int (0 : Int32)), (.int (0 : Int32)), (.int (0 : Int32))] (.int (0 : Int32)) := Arv.set Ar33 Cq33 Sz33 Nn33 Hh33 Gg33 (fits_nar_bool _) W33 0 rfl (Nat.le_of_ble_eq_true rfl)
  have K33 : Keep h0 h33 [] := Keep.wr K26 W33 (Or.inr sz_b26)
  have Z33 : n0 ≤ h33.size := Nat.le_trans Z26 (Keep.of_wr W33).1
  have N33 := Fr.snoc X33 N24 g_b26
  refine Goes.by st33 ?_
  refine Goes.by (fun _ k => XS.dup X33.here hx rfl (hb hby at_50) rfl rfl (XS.iconst X33.here hx rfl (hb hby at_51) (XS.iconst X33.here hx rfl (hb hby at_52) k))) ?_
  obtain ⟨cl34, Ar34, Cq34, Sz34, Nn34, Hh34, Gg34⟩ := id V33
  have hin34 : ¬ ((1 : Int32) < 0 ∨ cl34.slots.size ≤ ((1 : Int32)).toNatClampNeg) := inb_of Sz34 ⟨by decide, by decide⟩
  obtain ⟨T34, h34, X34, e34, W34, st34⟩ := stZ X33 hx hZ e33 Ar34 (j := (1 : Int32)) hin34 (g := (mkF m 53 #[.val (.int p1), .val (.ref b1), .unset, .unset] [(.int (1 : Int32)), (.int (1 : Int32)), (.ref b26), (.ref b26)])) rfl rfl (hb hby at_53)
  have V34 : Arv Z h34 b26 k26 .boolean (6 : Int32) [(.int (1 : Int32)), (.int (1 : Int32)), (.int (0 : Int32)), (.int (0 : Int32)), (.int (0 : Int32)), (.int (0 : Int32))] (.int (0 : Int32)) := Arv.set Ar34 Cq34 Sz34 Nn34 Hh34 Gg34 (fits_nar_bool _) W34 1 rfl (Nat.le_of_ble_eq_true rfl)
  have K34 : Keep h0 h34 [] := Keep.wr K33 W34 (Or.inr sz_b26)
  have Z34 : n0 ≤ h34.size := Nat.le_trans Z33 (Keep.of_wr W34).1
  have N34 := Fr.snoc X34 N33 g_b26
  refine Goes.by st34 ?_
  refine Goes.by (fun _ k => XS.dup X34.here hx rfl (hb hby at_54) rfl rfl (XS.iconst X34.here hx rfl (hb hby at_55) (XS.iconst X34.here hx rfl (hb hby at_56) k))) ?_
  obtain ⟨cl35, Ar35, Cq35, Sz35, Nn35, Hh35, Gg35⟩ := id V34
  have hin35 : ¬ ((2 : Int32) < 0 ∨ cl35.slots.size ≤ ((2 : Int32)).toNatClampNeg) := inb_of Sz35 ⟨by decide, by decide⟩
  obtain ⟨T35, h35, X35, e35, W35, st35⟩ := stZ X34 hx hZ e34 Ar35 (j := (2 : Int32)) hin35 (g := (mkF m 57 #[.val (.int p1), .val (.ref b1), .unset, .unset] [(.int (0 : Int32)), (.int (2 : Int32)), (.ref b26), (.ref b26)])) rfl rfl (hb hby at_57)
  have V35 : Arv Z h35 b26 k26 .boolean (6 : Int32) [(.int (1 : Int32)), (.int (1 : Int32)), (.int (0 : Int32)), (.int (0 : Int32)), (.int (0 : Int32)), (.int (0 : Int32))] (.int (0 : Int32)) := Arv.set Ar35 Cq35 Sz35 Nn35 Hh35 Gg35 (fits_nar_bool _) W35 2 rfl (Nat.le_of_ble_eq_true rfl)
  have K35 : Keep h0 h35 [] := Keep.wr K34 W35 (Or.inr sz_b26)
  have Z35 : n0 ≤ h35.size := Nat.le_trans Z34 (Keep.of_wr W35).1
  have N35 := Fr.snoc X35 N34 g_b26
  refine Goes.by st35 ?_
  refine Goes.by (fun _ k => XS.dup X35.here hx rfl (hb hby at_58) rfl rfl (XS.iconst X35.here hx rfl (hb hby at_59) (XS.iconst X35.here hx rfl (hb hby at_60) k))) ?_
  obtain ⟨cl36, Ar36, Cq36, Sz36, Nn36, Hh36, Gg36⟩ := id V35
  have hin36 : ¬ ((3 : Int32) < 0 ∨ cl36.slots.size ≤ ((3 : Int32)).toNatClampNeg) := inb_of Sz36 ⟨by decide, by decide⟩
  obtain ⟨T36, h36, X36, e36, W36, st36⟩ := stZ X35 hx hZ e35 Ar36 (j := (3 : Int32)) hin36 (g := (mkF m 61 #[.val (.int p1), .val (.ref b1), .unset, .unset] [(.int (0 : Int32)), (.int (3 : Int32)), (.ref b26), (.ref b26)])) rfl rfl (hb hby at_61)
  have V36 : Arv Z h36 b26 k26 .boolean (6 : Int32) [(.int (1 : Int32)), (.int (1 : Int32)), (.int (0 : Int32)), (.int (0 : Int32)), (.int (0 : Int32)), (.int (0 : Int32))] (.int (0 : Int32)) := Arv.set Ar36 Cq36 Sz36 Nn36 Hh36 Gg36 (fits_nar_bool _) W36 3 rfl (Nat.le_of_ble_eq_true rfl)
  have K36 : Keep h0 h36 [] := Keep.wr K35 W36 (Or.inr sz_b26)
  have Z36 : n0 ≤ h36.size := Nat.le_trans Z35 (Keep.of_wr W36).1
  have N36 := Fr.snoc X36 N35 g_b26
  refine Goes.by st36 ?_
  refine Goes.by (fun _ k => XS.dup X36.here hx rfl (hb hby at_62) rfl rfl (XS.iconst X36.here hx rfl (hb hby at_63) (XS.iconst X36.here hx rfl (hb hby at_64) k))) ?_
  obtain ⟨cl37, Ar37, Cq37, Sz37, Nn37, Hh37, Gg37⟩ := id V36
  have hin37 : ¬ ((4 : Int32) < 0 ∨ cl37.slots.size ≤ ((4 : Int32)).toNatClampNeg) := inb_of Sz37 ⟨by decide, by decide⟩
  obtain ⟨T37, h37, X37, e37, W37, st37⟩ := stZ X36 hx hZ e36 Ar37 (j := (4 : Int32)) hin37 (g := (mkF m 65 #[.val (.int p1), .val (.ref b1), .unset, .unset] [(.int (0 : Int32)), (.int (4 : Int32)), (.ref b26), (.ref b26)])) rfl rfl (hb hby at_65)
  have V37 : Arv Z h37 b26 k26 .boolean (6 : Int32) [(.int (1 : Int32)), (.int (1 : Int32)), (.int (0 : Int32)), (.int (0 : Int32)), (.int (0 : Int32)), (.int (0 : Int32))] (.int (0 : Int32)) := Arv.set Ar37 Cq37 Sz37 Nn37 Hh37 Gg37 (fits_nar_bool _) W37 4 rfl (Nat.le_of_ble_eq_true rfl)
  have K37 : Keep h0 h37 [] := Keep.wr K36 W37 (Or.inr sz_b26)
  have Z37 : n0 ≤ h37.size := Nat.le_trans Z36 (Keep.of_wr W37).1
  have N37 := Fr.snoc X37 N36 g_b26
  refine Goes.by st37 ?_
  refine Goes.by (fun _ k => XS.dup X37.here hx rfl (hb hby at_66) rfl rfl (XS.iconst X37.here hx rfl (hb hby at_67) (XS.iconst X37.here hx rfl (hb hby at_68) k))) ?_
  obtain ⟨cl38, Ar38, Cq38, Sz38, Nn38, Hh38, Gg38⟩ := id V37
  have hin38 : ¬ ((5 : Int32) < 0 ∨ cl38.slots.size ≤ ((5 : Int32)).toNatClampNeg) := inb_of Sz38 ⟨by decide, by decide⟩
  obtain ⟨T38, h38, X38, e38, W38, st38⟩ := stZ X37 hx hZ e37 Ar38 (j := (5 : Int32)) hin38 (g := (mkF m 69 #[.val (.int p1), .val (.ref b1), .unset, .unset] [(.int (0 : Int32)), (.int (5 : Int32)), (.ref b26), (.ref b26)])) rfl rfl (hb hby at_69)
  have V38 : Arv Z h38 b26 k26 .boolean (6 : Int32) [(.int (1 : Int32)), (.int (1 : Int32)), (.int (0 : Int32)), (.int (0 : Int32)), (.int (0 : Int32)), (.int (0 : Int32))] (.int (0 : Int32)) := Arv.set Ar38 Cq38 Sz38 Nn38 Hh38 Gg38 (fits_nar_bool _) W38 5 rfl (Nat.le_of_ble_eq_true rfl)
  have K38 : Keep h0 h38 [] := Keep.wr K37 W38 (Or.inr sz_b26)
  have Z38 : n0 ≤ h38.size := Nat.le_trans Z37 (Keep.of_wr W38).1
  have N38 := Fr.snoc X38 N37 g_b26
  refine Goes.by st38 ?_
  refine Goes.by (fun _ k => XS.astoreN X38.here hx rfl (hb hby at_70) rfl rfl (l' := #[.val (.int p1), .val (.ref b1), .val (.ref b26), .unset]) rfl (XS.iloadN X38.here hx rfl (hb hby at_71) rfl (X38.ldcInt hx hown (mvT hZ (hw _ (List.mem_of_getElem? (i := 17) rfl))) (g := (mkF m 72 #[.val (.int p1), .val (.ref b1), .val (.ref b26), .unset] [(.int p1)])) rfl (hb hby at_72) _ k))) ?_
  show Goes p e below (T38.setTop (mkF m 74 #[.val (.int p1), .val (.ref b1), .val (.ref b26), .unset] [(.int (2147483647 : Int32)), (.int p1)])) _
  refine Goes.by (fun _ k => XS.iand X38.here hx rfl (hb hby at_74) rfl (XS.bipush X38.here hx rfl (hb hby at_75) (iremM X38 hx rfl (hb hby at_77) rfl (by decide) k))) ?_
  show Goes p e below (T38.setTop (mkF m 78 #[.val (.int p1), .val (.ref b1), .val (.ref b26), .unset] [(.int ((p1 &&& (2147483647 : Int32)) % (6 : Int32)))])) _
  refine Goes.by (fun _ k => XS.istoreN X38.here hx rfl (hb hby at_78) rfl (l' := #[.val (.int p1), .val (.ref b1), .val (.ref b26), .val (.int ((p1 &&& (2147483647 : Int32)) % (6 : Int32)))]) rfl k) ?_
  show Goes p e below (T38.setTop (mkF m 79 #[.val (.int p1), .val (.ref b1), .val (.ref b26), .val (.int ((p1 &&& (2147483647 : Int32)) % (6 : Int32)))] [])) _
  have hsi := own_split p1
  obtain ⟨i, hi⟩ : ∃ z, z = ((p1 &&& (2147483647 : Int32)) % (6 : Int32)) := ⟨_, rfl⟩
  rw [← hi] at hsi ⊢
  rcases hsi with rfl | rfl | rfl | rfl | rfl | rfl
  · show Goes p e below (T38.setTop (mkF m 79 #[.val (.int p1), .val (.ref b1), .val (.ref b26), .val (.int (0 : Int32))] [])) _
    refine Goes.by (fun _ k => XS.aloadN X38.here hx rfl (hb hby at_79) rfl rfl (XS.iloadN X38.here hx rfl (hb hby at_80) rfl k)) ?_
    show Goes p e below (T38.setTop (mkF m 81 #[.val (.int p1), .val (.ref b1), .val (.ref b26), .val (.int (0 : Int32))] [(.int (0 : Int32)), (.ref b1)])) _
    have f40 := (((((((V24.ext E26).other W33 ne26_b1).other W34 ne26_b1).other W35 ne26_b1).other W36 ne26_b1).other W37 ne26_b1).other W38 ne26_b1)
    obtain ⟨cl39, Ar39, Cq39, Sz39, Nn39, Hh39, Gg39⟩ := id f40
    have hin39 : ¬ ((0 : Int32) < 0 ∨ cl39.slots.size ≤ ((0 : Int32)).toNatClampNeg) := inb_of Sz39 ⟨by decide, by decide⟩
    have hat39 : cl39.slots[((0 : Int32)).toNatClampNeg]? = some (.ref (w 0)) := Has.at Hh39 hin39 rfl
    refine Goes.by (fun _ k => X38.aaload hx (j := (0 : Int32)) (v := (.ref (w 0))) (by rw [e38]; exact Ar39.1) (State.isArrayOf_alike hZ.alike Ar39.2.1) rfl Ar39.2.2 hin39 hat39 (g := (mkF m 81 #[.val (.int p1), .val (.ref b1), .val (.ref b26), .val (.int (0 : Int32))] [(.int (0 : Int32)), (.ref b1)])) rfl rfl (hb hby at_81) _ k) ?_
    have f44 := (Sta.wr W38 (Sta.wr W37 (Sta.wr W36 (Sta.wr W35 (Sta.wr W34 (Sta.wr W33 ((Sta.wr W24 (Sta.wr W20 (Sta.wr W16 (Sta.wr W12 (Sta.wr W8 (Sta.wr W4 f2)))))).ext E26)))))))
    obtain ⟨_, _, ⟨T45, L45, k45, n45⟩, -, X45, ⟨Lc45, hQ45, l45, y45, z45⟩, st45⟩ := Jvm.LawKit.callS X38 hx (y := (⟨"com/example/proxybus/proxybus/settlement/LbmpFlow", "isLbmp", "(Lcom/example/proxybus/proxybus/model/TransactionKind;)Z"⟩ : MethodName)) hown (mvT hZ (hw _ (List.mem_of_getElem? (i := 18) rfl))) (mvT hZ (hw _ (List.mem_of_getElem? (i := 19) rfl))) (mvT hZ (hw _ (List.mem_of_getElem? (i := 20) rfl))) (mvT hZ (hw _ (List.mem_of_getElem? (i := 21) rfl))) (by decide) (backOf (W := 0) (r1_40 l Z a0 hw [] h38 n0 Z38 w f44) hZ (hw _ (List.mem_of_getElem? (i := 21) rfl)) (hw _ (List.mem_of_getElem? (i := 20) rfl)) (by decide) (by decide)) (g := (mkF m 82 #[.val (.int p1), .val (.ref b1), .val (.ref b26), .val (.int (0 : Int32))] [(.ref (w 0))])) rfl (by rw [hml]; rfl) (argsL := [(.ref (w 0))]) (rest := []) (lenOf pd0 rfl) rfl (by show 2 * 0 + _ ≤ _; exact Nat.le_of_eq rfl) (hb hby at_82) (fun _ _ => ⟨rfl, e38, (by decide : 2 + 0 ≤ _), (by decide : 12 + 0 ≤ _)⟩)
    dsimp only [Pt.U, Pt.locs, Pt.cells, Pt.slots] at X45 l45 y45 z45 st45 hQ45
    subst l45 y45 z45
    obtain ⟨rfl, Nq45, e45⟩ := hQ45
    have N45 := Fr.app N38 Nq45
    refine Goes.by st45 ?_
    refine Goes.by (fun _ k => XS.aloadN X45.here hx rfl (hb hby at_85) rfl rfl (XS.iloadN X45.here hx rfl (hb hby at_86) rfl k)) ?_
    show Goes p e below (T45.setTop (mkF m 87 #[.val (.int p1), .val (.ref b1), .val (.ref b26), .val (.int (0 : Int32))] [(.int (0 : Int32)), (.ref b26), (.int (1 : Int32))])) _
    obtain ⟨cl46, Ar46, Cq46, Sz46, Nn46, Hh46, Gg46⟩ := id V38
    have hin46 : ¬ ((0 : Int32) < 0 ∨ cl46.slots.size ≤ ((0 : Int32)).toNatClampNeg) := inb_of Sz46 ⟨by decide, by decide⟩
    have hat46 : cl46.slots[((0 : Int32)).toNatClampNeg]? = some (.int (1 : Int32)) := Has.at Hh46 hin46 rfl
    refine Goes.by (fun _ k => X45.baloadBooleans hx (j := (0 : Int32)) (v := (.int (1 : Int32))) (by rw [e45]; exact Ar46.1) (State.isArrayOf_alike hZ.alike Ar46.2.1) Ar46.2.2 hin46 hat46 (g := (mkF m 87 #[.val (.int p1), .val (.ref b1), .val (.ref b26), .val (.int (0 : Int32))] [(.int (0 : Int32)), (.ref b26), (.int (1 : Int32))])) rfl rfl (hb hby at_87) _ (XS.icmpNo X45.here hx rfl (hb hby at_88) rfl (teq (by decide : (1 : Int32) = (1 : Int32))).2 (XS.iconst X45.here hx rfl (hb hby at_91) k))) ?_
    show Goes p e below (T45.setTop (mkF m 92 #[.val (.int p1), .val (.ref b1), .val (.ref b26), .val (.int (0 : Int32))] [(.int (1 : Int32))])) _
    refine Goes.by (fun _ k => XS.goto X45.here hx rfl (pc0 := 92) (pc' := 96) rfl (hb hby at_92) (by decide) (by decide) k) ?_
    show Goes p e below (T45.setTop (mkF m 96 #[.val (.int p1), .val (.ref b1), .val (.ref b26), .val (.int (0 : Int32))] [(.int (1 : Int32))])) _
    obtain ⟨fs, hr, hrun, hended, hW, hsame⟩ := X45.leave (v := some (.int (1 : Int32))) (fun h => by rw [Bd.returns] at h; cases h)
    exact ⟨_, _, retN X45 hx (t := .boolean) Bd.returns (by simp) (hb hby at_96) hr, hrun, hended, _, _, rfl, ⟨rfl, N45⟩, ⟨_, rfl⟩, hW, hsame.mono (by decide) (by decide)⟩
  · show Goes p e below (T38.setTop (mkF m 79 #[.val (.int p1), .val (.ref b1), .val (.ref b26), .val (.int (1 : Int32))] [])) _
    refine Goes.by (fun _ k => XS.aloadN X38.here hx rfl (hb hby at_79) rfl rfl (XS.iloadN X38.here hx rfl (hb hby at_80) rfl k)) ?_
    show Goes p e below (T38.setTop (mkF m 81 #[.val (.int p1), .val (.ref b1), .val (.ref b26), .val (.int (1 : Int32))] [(.int (1 : Int32)), (.ref b1)])) _
    have f48 := (((((((V24.ext E26).other W33 ne26_b1).other W34 ne26_b1).other W35 ne26_b1).other W36 ne26_b1).other W37 ne26_b1).other W38 ne26_b1)
    obtain ⟨cl47, Ar47, Cq47, Sz47, Nn47, Hh47, Gg47⟩ := id f48
    have hin47 : ¬ ((1 : Int32) < 0 ∨ cl47.slots.size ≤ ((1 : Int32)).toNatClampNeg) := inb_of Sz47 ⟨by decide, by decide⟩
    have hat47 : cl47.slots[((1 : Int32)).toNatClampNeg]? = some (.ref (w 1)) := Has.at Hh47 hin47 rfl
    refine Goes.by (fun _ k => X38.aaload hx (j := (1 : Int32)) (v := (.ref (w 1))) (by rw [e38]; exact Ar47.1) (State.isArrayOf_alike hZ.alike Ar47.2.1) rfl Ar47.2.2 hin47 hat47 (g := (mkF m 81 #[.val (.int p1), .val (.ref b1), .val (.ref b26), .val (.int (1 : Int32))] [(.int (1 : Int32)), (.ref b1)])) rfl rfl (hb hby at_81) _ k) ?_
    have f53 := (Sta.wr W38 (Sta.wr W37 (Sta.wr W36 (Sta.wr W35 (Sta.wr W34 (Sta.wr W33 ((Sta.wr W24 (Sta.wr W20 (Sta.wr W16 (Sta.wr W12 (Sta.wr W8 (Sta.wr W4 f2)))))).ext E26)))))))
    have f54 := (Sta.wr W38 (Sta.wr W37 (Sta.wr W36 (Sta.wr W35 (Sta.wr W34 (Sta.wr W33 ((Sta.wr W24 (Sta.wr W20 (Sta.wr W16 (Sta.wr W12 (Sta.wr W8 f6))))).ext E26)))))))
    obtain ⟨_, _, ⟨T55, L55, k55, n55⟩, -, X55, ⟨Lc55, hQ55, l55, y55, z55⟩, st55⟩ := Jvm.LawKit.callS X38 hx (y := (⟨"com/example/proxybus/proxybus/settlement/LbmpFlow", "isLbmp", "(Lcom/example/proxybus/proxybus/model/TransactionKind;)Z"⟩ : MethodName)) hown (mvT hZ (hw _ (List.mem_of_getElem? (i := 18) rfl))) (mvT hZ (hw _ (List.mem_of_getElem? (i := 19) rfl))) (mvT hZ (hw _ (List.mem_of_getElem? (i := 20) rfl))) (mvT hZ (hw _ (List.mem_of_getElem? (i := 21) rfl))) (by decide) (backOf (W := 0) (r1_48 l Z a0 hw [] h38 n0 Z38 w f53 f54 pne_0_1) hZ (hw _ (List.mem_of_getElem? (i := 21) rfl)) (hw _ (List.mem_of_getElem? (i := 20) rfl)) (by decide) (by decide)) (g := (mkF m 82 #[.val (.int p1), .val (.ref b1), .val (.ref b26), .val (.int (1 : Int32))] [(.ref (w 1))])) rfl (by rw [hml]; rfl) (argsL := [(.ref (w 1))]) (rest := []) (lenOf pd0 rfl) rfl (by show 2 * 0 + _ ≤ _; exact Nat.le_of_eq rfl) (hb hby at_82) (fun _ _ => ⟨rfl, e38, (by decide : 2 + 0 ≤ _), (by decide : 12 + 0 ≤ _)⟩)
    dsimp only [Pt.U, Pt.locs, Pt.cells, Pt.slots] at X55 l55 y55 z55 st55 hQ55
    subst l55 y55 z55
    obtain ⟨rfl, Nq55, e55⟩ := hQ55
    have N55 := Fr.app N38 Nq55
    refine Goes.by st55 ?_
    refine Goes.by (fun _ k => XS.aloadN X55.here hx rfl (hb hby at_85) rfl rfl (XS.iloadN X55.here hx rfl (hb hby at_86) rfl k)) ?_
    show Goes p e below (T55.setTop (mkF m 87 #[.val (.int p1), .val (.ref b1), .val (.ref b26), .val (.int (1 : Int32))] [(.int (1 : Int32)), (.ref b26), (.int (1 : Int32))])) _
    obtain ⟨cl56, Ar56, Cq56, Sz56, Nn56, Hh56, Gg56⟩ := id V38
    have hin56 : ¬ ((1 : Int32) < 0 ∨ cl56.slots.size ≤ ((1 : Int32)).toNatClampNeg) := inb_of Sz56 ⟨by decide, by decide⟩
    have hat56 : cl56.slots[((1 : Int32)).toNatClampNeg]? = some (.int (1 : Int32)) := Has.at Hh56 hin56 rfl
    refine Goes.by (fun _ k => X55.baloadBooleans hx (j := (1 : Int32)) (v := (.int (1 : Int32))) (by rw [e55]; exact Ar56.1) (State.isArrayOf_alike hZ.alike Ar56.2.1) Ar56.2.2 hin56 hat56 (g := (mkF m 87 #[.val (.int p1), .val (.ref b1), .val (.ref b26), .val (.int (1 : Int32))] [(.int (1 : Int32)), (.ref b26), (.int (1 : Int32))])) rfl rfl (hb hby at_87) _ (XS.icmpNo X55.here hx rfl (hb hby at_88) rfl (teq (by decide : (1 : Int32) = (1 : Int32))).2 (XS.iconst X55.here hx rfl (hb hby at_91) k))) ?_
    show Goes p e below (T55.setTop (mkF m 92 #[.val (.int p1), .val (.ref b1), .val (.ref b26), .val (.int (1 : Int32))] [(.int (1 : Int32))])) _
    refine Goes.by (fun _ k => XS.goto X55.here hx rfl (pc0 := 92) (pc' := 96) rfl (hb hby at_92) (by decide) (by decide) k) ?_
    show Goes p e below (T55.setTop (mkF m 96 #[.val (.int p1), .val (.ref b1), .val (.ref b26), .val (.int (1 : Int32))] [(.int (1 : Int32))])) _
    obtain ⟨fs, hr, hrun, hended, hW, hsame⟩ := X55.leave (v := some (.int (1 : Int32))) (fun h => by rw [Bd.returns] at h; cases h)
    exact ⟨_, _, retN X55 hx (t := .boolean) Bd.returns (by simp) (hb hby at_96) hr, hrun, hended, _, _, rfl, ⟨rfl, N55⟩, ⟨_, rfl⟩, hW, hsame.mono (by decide) (by decide)⟩
  · show Goes p e below (T38.setTop (mkF m 79 #[.val (.int p1), .val (.ref b1), .val (.ref b26), .val (.int (2 : Int32))] [])) _
    refine Goes.by (fun _ k => XS.aloadN X38.here hx rfl (hb hby at_79) rfl rfl (XS.iloadN X38.here hx rfl (hb hby at_80) rfl k)) ?_
    show Goes p e below (T38.setTop (mkF m 81 #[.val (.int p1), .val (.ref b1), .val (.ref b26), .val (.int (2 : Int32))] [(.int (2 : Int32)), (.ref b1)])) _
    have f58 := (((((((V24.ext E26).other W33 ne26_b1).other W34 ne26_b1).other W35 ne26_b1).other W36 ne26_b1).other W37 ne26_b1).other W38 ne26_b1)
    obtain ⟨cl57, Ar57, Cq57, Sz57, Nn57, Hh57, Gg57⟩ := id f58
    have hin57 : ¬ ((2 : Int32) < 0 ∨ cl57.slots.size ≤ ((2 : Int32)).toNatClampNeg) := inb_of Sz57 ⟨by decide, by decide⟩
    have hat57 : cl57.slots[((2 : Int32)).toNatClampNeg]? = some (.ref (w 2)) := Has.at Hh57 hin57 rfl
    refine Goes.by (fun _ k => X38.aaload hx (j := (2 : Int32)) (v := (.ref (w 2))) (by rw [e38]; exact Ar57.1) (State.isArrayOf_alike hZ.alike Ar57.2.1) rfl Ar57.2.2 hin57 hat57 (g := (mkF m 81 #[.val (.int p1), .val (.ref b1), .val (.ref b26), .val (.int (2 : Int32))] [(.int (2 : Int32)), (.ref b1)])) rfl rfl (hb hby at_81) _ k) ?_
    have f63 := (Sta.wr W38 (Sta.wr W37 (Sta.wr W36 (Sta.wr W35 (Sta.wr W34 (Sta.wr W33 ((Sta.wr W24 (Sta.wr W20 (Sta.wr W16 (Sta.wr W12 (Sta.wr W8 (Sta.wr W4 f2)))))).ext E26)))))))
    have f64 := (Sta.wr W38 (Sta.wr W37 (Sta.wr W36 (Sta.wr W35 (Sta.wr W34 (Sta.wr W33 ((Sta.wr W24 (Sta.wr W20 (Sta.wr W16 (Sta.wr W12 (Sta.wr W8 f6))))).ext E26)))))))
    obtain ⟨_, _, ⟨T65, L65, k65, n65⟩, -, X65, ⟨Lc65, hQ65, l65, y65, z65⟩, st65⟩ := Jvm.LawKit.callS X38 hx (y := (⟨"com/example/proxybus/proxybus/settlement/LbmpFlow", "isLbmp", "(Lcom/example/proxybus/proxybus/model/TransactionKind;)Z"⟩ : MethodName)) hown (mvT hZ (hw _ (List.mem_of_getElem? (i := 18) rfl))) (mvT hZ (hw _ (List.mem_of_getElem? (i := 19) rfl))) (mvT hZ (hw _ (List.mem_of_getElem? (i := 20) rfl))) (mvT hZ (hw _ (List.mem_of_getElem? (i := 21) rfl))) (by decide) (backOf (W := 0) (r1_58 l Z a0 hw [] h38 n0 Z38 w f63 f64 pne_0_2 pne_1_2) hZ (hw _ (List.mem_of_getElem? (i := 21) rfl)) (hw _ (List.mem_of_getElem? (i := 20) rfl)) (by decide) (by decide)) (g := (mkF m 82 #[.val (.int p1), .val (.ref b1), .val (.ref b26), .val (.int (2 : Int32))] [(.ref (w 2))])) rfl (by rw [hml]; rfl) (argsL := [(.ref (w 2))]) (rest := []) (lenOf pd0 rfl) rfl (by show 2 * 0 + _ ≤ _; exact Nat.le_of_eq rfl) (hb hby at_82) (fun _ _ => ⟨rfl, e38, (by decide : 2 + 0 ≤ _), (by decide : 12 + 0 ≤ _)⟩)
    dsimp only [Pt.U, Pt.locs, Pt.cells, Pt.slots] at X65 l65 y65 z65 st65 hQ65
    subst l65 y65 z65
    obtain ⟨rfl, Nq65, e65⟩ := hQ65
    have N65 := Fr.app N38 Nq65
    refine Goes.by st65 ?_
    refine Goes.by (fun _ k => XS.aloadN X65.here hx rfl (hb hby at_85) rfl rfl (XS.iloadN X65.here hx rfl (hb hby at_86) rfl k)) ?_
    show Goes p e below (T65.setTop (mkF m 87 #[.val (.int p1), .val (.ref b1), .val (.ref b26), .val (.int (2 : Int32))] [(.int (2 : Int32)), (.ref b26), (.int (0 : Int32))])) _
    obtain ⟨cl66, Ar66, Cq66, Sz66, Nn66, Hh66, Gg66⟩ := id V38
    have hin66 : ¬ ((2 : Int32) < 0 ∨ cl66.slots.size ≤ ((2 : Int32)).toNatClampNeg) := inb_of Sz66 ⟨by decide, by decide⟩
    have hat66 : cl66.slots[((2 : Int32)).toNatClampNeg]? = some (.int (0 : Int32)) := Has.at Hh66 hin66 rfl
    refine Goes.by (fun _ k => X65.baloadBooleans hx (j := (2 : Int32)) (v := (.int (0 : Int32))) (by rw [e65]; exact Ar66.1) (State.isArrayOf_alike hZ.alike Ar66.2.1) Ar66.2.2 hin66 hat66 (g := (mkF m 87 #[.val (.int p1), .val (.ref b1), .val (.ref b26), .val (.int (2 : Int32))] [(.int (2 : Int32)), (.ref b26), (.int (0 : Int32))])) rfl rfl (hb hby at_87) _ (XS.icmpNo X65.here hx rfl (hb hby at_88) rfl (teq (by decide : (0 : Int32) = (0 : Int32))).2 (XS.iconst X65.here hx rfl (hb hby at_91) k))) ?_
    show Goes p e below (T65.setTop (mkF m 92 #[.val (.int p1), .val (.ref b1), .val (.ref b26), .val (.int (2 : Int32))] [(.int (1 : Int32))])) _
    refine Goes.by (fun _ k => XS.goto X65.here hx rfl (pc0 := 92) (pc' := 96) rfl (hb hby at_92) (by decide) (by decide) k) ?_
    show Goes p e below (T65.setTop (mkF m 96 #[.val (.int p1), .val (.ref b1), .val (.ref b26), .val (.int (2 : Int32))] [(.int (1 : Int32))])) _
    obtain ⟨fs, hr, hrun, hended, hW, hsame⟩ := X65.leave (v := some (.int (1 : Int32))) (fun h => by rw [Bd.returns] at h; cases h)
    exact ⟨_, _, retN X65 hx (t := .boolean) Bd.returns (by simp) (hb hby at_96) hr, hrun, hended, _, _, rfl, ⟨rfl, N65⟩, ⟨_, rfl⟩, hW, hsame.mono (by decide) (by decide)⟩
  · show Goes p e below (T38.setTop (mkF m 79 #[.val (.int p1), .val (.ref b1), .val (.ref b26), .val (.int (3 : Int32))] [])) _
    refine Goes.by (fun _ k => XS.aloadN X38.here hx rfl (hb hby at_79) rfl rfl (XS.iloadN X38.here hx rfl (hb hby at_80) rfl k)) ?_
    show Goes p e below (T38.setTop (mkF m 81 #[.val (.int p1), .val (.ref b1), .val (.ref b26), .val (.int (3 : Int32))] [(.int (3 : Int32)), (.ref b1)])) _
    have f68 := (((((((V24.ext E26).other W33 ne26_b1).other W34 ne26_b1).other W35 ne26_b1).other W36 ne26_b1).other W37 ne26_b1).other W38 ne26_b1)
    obtain ⟨cl67, Ar67, Cq67, Sz67, Nn67, Hh67, Gg67⟩ := id f68
    have hin67 : ¬ ((3 : Int32) < 0 ∨ cl67.slots.size ≤ ((3 : Int32)).toNatClampNeg) := inb_of Sz67 ⟨by decide, by decide⟩
    have hat67 : cl67.slots[((3 : Int32)).toNatClampNeg]? = some (.ref (w 3)) := Has.at Hh67 hin67 rfl
    refine Goes.by (fun _ k => X38.aaload hx (j := (3 : Int32)) (v := (.ref (w 3))) (by rw [e38]; exact Ar67.1) (State.isArrayOf_alike hZ.alike Ar67.2.1) rfl Ar67.2.2 hin67 hat67 (g := (mkF m 81 #[.val (.int p1), .val (.ref b1), .val (.ref b26), .val (.int (3 : Int32))] [(.int (3 : Int32)), (.ref b1)])) rfl rfl (hb hby at_81) _ k) ?_
    have f73 := (Sta.wr W38 (Sta.wr W37 (Sta.wr W36 (Sta.wr W35 (Sta.wr W34 (Sta.wr W33 ((Sta.wr W24 (Sta.wr W20 (Sta.wr W16 (Sta.wr W12 (Sta.wr W8 (Sta.wr W4 f2)))))).ext E26)))))))
    have f74 := (Sta.wr W38 (Sta.wr W37 (Sta.wr W36 (Sta.wr W35 (Sta.wr W34 (Sta.wr W33 ((Sta.wr W24 (Sta.wr W20 (Sta.wr W16 (Sta.wr W12 (Sta.wr W8 f6))))).ext E26)))))))
    obtain ⟨_, _, ⟨T75, L75, k75, n75⟩, -, X75, ⟨Lc75, hQ75, l75, y75, z75⟩, st75⟩ := Jvm.LawKit.callS X38 hx (y := (⟨"com/example/proxybus/proxybus/settlement/LbmpFlow", "isLbmp", "(Lcom/example/proxybus/proxybus/model/TransactionKind;)Z"⟩ : MethodName)) hown (mvT hZ (hw _ (List.mem_of_getElem? (i := 18) rfl))) (mvT hZ (hw _ (List.mem_of_getElem? (i := 19) rfl))) (mvT hZ (hw _ (List.mem_of_getElem? (i := 20) rfl))) (mvT hZ (hw _ (List.mem_of_getElem? (i := 21) rfl))) (by decide) (backOf (W := 0) (r1_68 l Z a0 hw [] h38 n0 Z38 w f73 f74 pne_3_0 pne_3_1) hZ (hw _ (List.mem_of_getElem? (i := 21) rfl)) (hw _ (List.mem_of_getElem? (i := 20) rfl)) (by decide) (by decide)) (g := (mkF m 82 #[.val (.int p1), .val (.ref b1), .val (.ref b26), .val (.int (3 : Int32))] [(.ref (w 3))])) rfl (by rw [hml]; rfl) (argsL := [(.ref (w 3))]) (rest := []) (lenOf pd0 rfl) rfl (by show 2 * 0 + _ ≤ _; exact Nat.le_of_eq rfl) (hb hby at_82) (fun _ _ => ⟨rfl, e38, (by decide : 2 + 0 ≤ _), (by decide : 12 + 0 ≤ _)⟩)
    dsimp only [Pt.U, Pt.locs, Pt.cells, Pt.slots] at X75 l75 y75 z75 st75 hQ75
    subst l75 y75 z75
    obtain ⟨rfl, Nq75, e75⟩ := hQ75
    have N75 := Fr.app N38 Nq75
    refine Goes.by st75 ?_
    refine Goes.by (fun _ k => XS.aloadN X75.here hx rfl (hb hby at_85) rfl rfl (XS.iloadN X75.here hx rfl (hb hby at_86) rfl k)) ?_
    show Goes p e below (T75.setTop (mkF m 87 #[.val (.int p1), .val (.ref b1), .val (.ref b26), .val (.int (3 : Int32))] [(.int (3 : Int32)), (.ref b26), (.int (0 : Int32))])) _
    obtain ⟨cl76, Ar76, Cq76, Sz76, Nn76, Hh76, Gg76⟩ := id V38
    have hin76 : ¬ ((3 : Int32) < 0 ∨ cl76.slots.size ≤ ((3 : Int32)).toNatClampNeg) := inb_of Sz76 ⟨by decide, by decide⟩
    have hat76 : cl76.slots[((3 : Int32)).toNatClampNeg]? = some (.int (0 : Int32)) := Has.at Hh76 hin76 rfl
    refine Goes.by (fun _ k => X75.baloadBooleans hx (j := (3 : Int32)) (v := (.int (0 : Int32))) (by rw [e75]; exact Ar76.1) (State.isArrayOf_alike hZ.alike Ar76.2.1) Ar76.2.2 hin76 hat76 (g := (mkF m 87 #[.val (.int p1), .val (.ref b1), .val (.ref b26), .val (.int (3 : Int32))] [(.int (3 : Int32)), (.ref b26), (.int (0 : Int32))])) rfl rfl (hb hby at_87) _ (XS.icmpNo X75.here hx rfl (hb hby at_88) rfl (teq (by decide : (0 : Int32) = (0 : Int32))).2 (XS.iconst X75.here hx rfl (hb hby at_91) k))) ?_
    show Goes p e below (T75.setTop (mkF m 92 #[.val (.int p1), .val (.ref b1), .val (.ref b26), .val (.int (3 : Int32))] [(.int (1 : Int32))])) _
    refine Goes.by (fun _ k => XS.goto X75.here hx rfl (pc0 := 92) (pc' := 96) rfl (hb hby at_92) (by decide) (by decide) k) ?_
    show Goes p e below (T75.setTop (mkF m 96 #[.val (.int p1), .val (.ref b1), .val (.ref b26), .val (.int (3 : Int32))] [(.int (1 : Int32))])) _
    obtain ⟨fs, hr, hrun, hended, hW, hsame⟩ := X75.leave (v := some (.int (1 : Int32))) (fun h => by rw [Bd.returns] at h; cases h)
    exact ⟨_, _, retN X75 hx (t := .boolean) Bd.returns (by simp) (hb hby at_96) hr, hrun, hended, _, _, rfl, ⟨rfl, N75⟩, ⟨_, rfl⟩, hW, hsame.mono (by decide) (by decide)⟩
  · show Goes p e below (T38.setTop (mkF m 79 #[.val (.int p1), .val (.ref b1), .val (.ref b26), .val (.int (4 : Int32))] [])) _
    refine Goes.by (fun _ k => XS.aloadN X38.here hx rfl (hb hby at_79) rfl rfl (XS.iloadN X38.here hx rfl (hb hby at_80) rfl k)) ?_
    show Goes p e below (T38.setTop (mkF m 81 #[.val (.int p1), .val (.ref b1), .val (.ref b26), .val (.int (4 : Int32))] [(.int (4 : Int32)), (.ref b1)])) _
    have f78 := (((((((V24.ext E26).other W33 ne26_b1).other W34 ne26_b1).other W35 ne26_b1).other W36 ne26_b1).other W37 ne26_b1).other W38 ne26_b1)
    obtain ⟨cl77, Ar77, Cq77, Sz77, Nn77, Hh77, Gg77⟩ := id f78
    have hin77 : ¬ ((4 : Int32) < 0 ∨ cl77.slots.size ≤ ((4 : Int32)).toNatClampNeg) := inb_of Sz77 ⟨by decide, by decide⟩
    have hat77 : cl77.slots[((4 : Int32)).toNatClampNeg]? = some (.ref (w 4)) := Has.at Hh77 hin77 rfl
    refine Goes.by (fun _ k => X38.aaload hx (j := (4 : Int32)) (v := (.ref (w 4))) (by rw [e38]; exact Ar77.1) (State.isArrayOf_alike hZ.alike Ar77.2.1) rfl Ar77.2.2 hin77 hat77 (g := (mkF m 81 #[.val (.int p1), .val (.ref b1), .val (.ref b26), .val (.int (4 : Int32))] [(.int (4 : Int32)), (.ref b1)])) rfl rfl (hb hby at_81) _ k) ?_
    have f83 := (Sta.wr W38 (Sta.wr W37 (Sta.wr W36 (Sta.wr W35 (Sta.wr W34 (Sta.wr W33 ((Sta.wr W24 (Sta.wr W20 (Sta.wr W16 (Sta.wr W12 (Sta.wr W8 (Sta.wr W4 f2)))))).ext E26)))))))
    have f84 := (Sta.wr W38 (Sta.wr W37 (Sta.wr W36 (Sta.wr W35 (Sta.wr W34 (Sta.wr W33 ((Sta.wr W24 (Sta.wr W20 (Sta.wr W16 (Sta.wr W12 (Sta.wr W8 f6))))).ext E26)))))))
    obtain ⟨_, _, ⟨T85, L85, k85, n85⟩, -, X85, ⟨Lc85, hQ85, l85, y85, z85⟩, st85⟩ := Jvm.LawKit.callS X38 hx (y := (⟨"com/example/proxybus/proxybus/settlement/LbmpFlow", "isLbmp", "(Lcom/example/proxybus/proxybus/model/TransactionKind;)Z"⟩ : MethodName)) hown (mvT hZ (hw _ (List.mem_of_getElem? (i := 18) rfl))) (mvT hZ (hw _ (List.mem_of_getElem? (i := 19) rfl))) (mvT hZ (hw _ (List.mem_of_getElem? (i := 20) rfl))) (mvT hZ (hw _ (List.mem_of_getElem? (i := 21) rfl))) (by decide) (backOf (W := 0) (r1_78 l Z a0 hw [] h38 n0 Z38 w f83 f84 pne_0_4 pne_1_4) hZ (hw _ (List.mem_of_getElem? (i := 21) rfl)) (hw _ (List.mem_of_getElem? (i := 20) rfl)) (by decide) (by decide)) (g := (mkF m 82 #[.val (.int p1), .val (.ref b1), .val (.ref b26), .val (.int (4 : Int32))] [(.ref (w 4))])) rfl (by rw [hml]; rfl) (argsL := [(.ref (w 4))]) (rest := []) (lenOf pd0 rfl) rfl (by show 2 * 0 + _ ≤ _; exact Nat.le_of_eq rfl) (hb hby at_82) (fun _ _ => ⟨rfl, e38, (by decide : 2 + 0 ≤ _), (by decide : 12 + 0 ≤ _)⟩)
    dsimp only [Pt.U, Pt.locs, Pt.cells, Pt.slots] at X85 l85 y85 z85 st85 hQ85
    subst l85 y85 z85
    obtain ⟨rfl, Nq85, e85⟩ := hQ85
    have N85 := Fr.app N38 Nq85
    refine Goes.by st85 ?_
    refine Goes.by (fun _ k => XS.aloadN X85.here hx rfl (hb hby at_85) rfl rfl (XS.iloadN X85.here hx rfl (hb hby at_86) rfl k)) ?_
    show Goes p e below (T85.setTop (mkF m 87 #[.val (.int p1), .val (.ref b1), .val (.ref b26), .val (.int (4 : Int32))] [(.int (4 : Int32)), (.ref b26), (.int (0 : Int32))])) _
    obtain ⟨cl86, Ar86, Cq86, Sz86, Nn86, Hh86, Gg86⟩ := id V38
    have hin86 : ¬ ((4 : Int32) < 0 ∨ cl86.slots.size ≤ ((4 : Int32)).toNatClampNeg) := inb_of Sz86 ⟨by decide, by decide⟩
    have hat86 : cl86.slots[((4 : Int32)).toNatClampNeg]? = some (.int (0 : Int32)) := Has.at Hh86 hin86 rfl
    refine Goes.by (fun _ k => X85.baloadBooleans hx (j := (4 : Int32)) (v := (.int (0 : Int32))) (by rw [e85]; exact Ar86.1) (State.isArrayOf_alike hZ.alike Ar86.2.1) Ar86.2.2 hin86 hat86 (g := (mkF m 87 #[.val (.int p1), .val (.ref b1), .val (.ref b26), .val (.int (4 : Int32))] [(.int (4 : Int32)), (.ref b26), (.int (0 : Int32))])) rfl rfl (hb hby at_87) _ (XS.icmpNo X85.here hx rfl (hb hby at_88) rfl (teq (by decide : (0 : Int32) = (0 : Int32))).2 (XS.iconst X85.here hx rfl (hb hby at_91) k))) ?_
    show Goes p e below (T85.setTop (mkF m 92 #[.val (.int p1), .val (.ref b1), .val (.ref b26), .val (.int (4 : Int32))] [(.int (1 : Int32))])) _
    refine Goes.by (fun _ k => XS.goto X85.here hx rfl (pc0 := 92) (pc' := 96) rfl (hb hby at_92) (by decide) (by decide) k) ?_
    show Goes p e below (T85.setTop (mkF m 96 #[.val (.int p1), .val (.ref b1), .val (.ref b26), .val (.int (4 : Int32))] [(.int (1 : Int32))])) _
    obtain ⟨fs, hr, hrun, hended, hW, hsame⟩ := X85.leave (v := some (.int (1 : Int32))) (fun h => by rw [Bd.returns] at h; cases h)
    exact ⟨_, _, retN X85 hx (t := .boolean) Bd.returns (by simp) (hb hby at_96) hr, hrun, hended, _, _, rfl, ⟨rfl, N85⟩, ⟨_, rfl⟩, hW, hsame.mono (by decide) (by decide)⟩
  · show Goes p e below (T38.setTop (mkF m 79 #[.val (.int p1), .val (.ref b1), .val (.ref b26), .val (.int (5 : Int32))] [])) _
    refine Goes.by (fun _ k => XS.aloadN X38.here hx rfl (hb hby at_79) rfl rfl (XS.iloadN X38.here hx rfl (hb hby at_80) rfl k)) ?_
    show Goes p e below (T38.setTop (mkF m 81 #[.val (.int p1), .val (.ref b1), .val (.ref b26), .val (.int (5 : Int32))] [(.int (5 : Int32)), (.ref b1)])) _
    have f88 := (((((((V24.ext E26).other W33 ne26_b1).other W34 ne26_b1).other W35 ne26_b1).other W36 ne26_b1).other W37 ne26_b1).other W38 ne26_b1)
    obtain ⟨cl87, Ar87, Cq87, Sz87, Nn87, Hh87, Gg87⟩ := id f88
    have hin87 : ¬ ((5 : Int32) < 0 ∨ cl87.slots.size ≤ ((5 : Int32)).toNatClampNeg) := inb_of Sz87 ⟨by decide, by decide⟩
    have hat87 : cl87.slots[((5 : Int32)).toNatClampNeg]? = some (.ref (w 5)) := Has.at Hh87 hin87 rfl
    refine Goes.by (fun _ k => X38.aaload hx (j := (5 : Int32)) (v := (.ref (w 5))) (by rw [e38]; exact Ar87.1) (State.isArrayOf_alike hZ.alike Ar87.2.1) rfl Ar87.2.2 hin87 hat87 (g := (mkF m 81 #[.val (.int p1), .val (.ref b1), .val (.ref b26), .val (.int (5 : Int32))] [(.int (5 : Int32)), (.ref b1)])) rfl rfl (hb hby at_81) _ k) ?_
    have f93 := (Sta.wr W38 (Sta.wr W37 (Sta.wr W36 (Sta.wr W35 (Sta.wr W34 (Sta.wr W33 ((Sta.wr W24 (Sta.wr W20 (Sta.wr W16 (Sta.wr W12 (Sta.wr W8 (Sta.wr W4 f2)))))).ext E26)))))))
    have f94 := (Sta.wr W38 (Sta.wr W37 (Sta.wr W36 (Sta.wr W35 (Sta.wr W34 (Sta.wr W33 ((Sta.wr W24 (Sta.wr W20 (Sta.wr W16 (Sta.wr W12 (Sta.wr W8 f6))))).ext E26)))))))
    obtain ⟨_, _, ⟨T95, L95, k95, n95⟩, -, X95, ⟨Lc95, hQ95, l95, y95, z95⟩, st95⟩ := Jvm.LawKit.callS X38 hx (y := (⟨"com/example/proxybus/proxybus/settlement/LbmpFlow", "isLbmp", "(Lcom/example/proxybus/proxybus/model/TransactionKind;)Z"⟩ : MethodName)) hown (mvT hZ (hw _ (List.mem_of_getElem? (i := 18) rfl))) (mvT hZ (hw _ (List.mem_of_getElem? (i := 19) rfl))) (mvT hZ (hw _ (List.mem_of_getElem? (i := 20) rfl))) (mvT hZ (hw _ (List.mem_of_getElem? (i := 21) rfl))) (by decide) (backOf (W := 0) (r1_88 l Z a0 hw [] h38 n0 Z38 w f93 f94 pne_0_5 pne_1_5) hZ (hw _ (List.mem_of_getElem? (i := 21) rfl)) (hw _ (List.mem_of_getElem? (i := 20) rfl)) (by decide) (by decide)) (g := (mkF m 82 #[.val (.int p1), .val (.ref b1), .val (.ref b26), .val (.int (5 : Int32))] [(.ref (w 5))])) rfl (by rw [hml]; rfl) (argsL := [(.ref (w 5))]) (rest := []) (lenOf pd0 rfl) rfl (by show 2 * 0 + _ ≤ _; exact Nat.le_of_eq rfl) (hb hby at_82) (fun _ _ => ⟨rfl, e38, (by decide : 2 + 0 ≤ _), (by decide : 12 + 0 ≤ _)⟩)
    dsimp only [Pt.U, Pt.locs, Pt.cells, Pt.slots] at X95 l95 y95 z95 st95 hQ95
    subst l95 y95 z95
    obtain ⟨rfl, Nq95, e95⟩ := hQ95
    have N95 := Fr.app N38 Nq95
    refine Goes.by st95 ?_
    refine Goes.by (fun _ k => XS.aloadN X95.here hx rfl (hb hby at_85) rfl rfl (XS.iloadN X95.here hx rfl (hb hby at_86) rfl k)) ?_
    show Goes p e below (T95.setTop (mkF m 87 #[.val (.int p1), .val (.ref b1), .val (.ref b26), .val (.int (5 : Int32))] [(.int (5 : Int32)), (.ref b26), (.int (0 : Int32))])) _
    obtain ⟨cl96, Ar96, Cq96, Sz96, Nn96, Hh96, Gg96⟩ := id V38
    have hin96 : ¬ ((5 : Int32) < 0 ∨ cl96.slots.size ≤ ((5 : Int32)).toNatClampNeg) := inb_of Sz96 ⟨by decide, by decide⟩
    have hat96 : cl96.slots[((5 : Int32)).toNatClampNeg]? = some (.int (0 : Int32)) := Has.at Hh96 hin96 rfl
    refine Goes.by (fun _ k => X95.baloadBooleans hx (j := (5 : Int32)) (v := (.int (0 : Int32))) (by rw [e95]; exact Ar96.1) (State.isArrayOf_alike hZ.alike Ar96.2.1) Ar96.2.2 hin96 hat96 (g := (mkF m 87 #[.val (.int p1), .val (.ref b1), .val (.ref b26), .val (.int (5 : Int32))] [(.int (5 : Int32)), (.ref b26), (.int (0 : Int32))])) rfl rfl (hb hby at_87) _ (XS.icmpNo X95.here hx rfl (hb hby at_88) rfl (teq (by decide : (0 : Int32) = (0 : Int32))).2 (XS.iconst X95.here hx rfl (hb hby at_91) k))) ?_
    show Goes p e below (T95.setTop (mkF m 92 #[.val (.int p1), .val (.ref b1), .val (.ref b26), .val (.int (5 : Int32))] [(.int (1 : Int32))])) _
    refine Goes.by (fun _ k => XS.goto X95.here hx rfl (pc0 := 92) (pc' := 96) rfl (hb hby at_92) (by decide) (by decide) k) ?_
    show Goes p e below (T95.setTop (mkF m 96 #[.val (.int p1), .val (.ref b1), .val (.ref b26), .val (.int (5 : Int32))] [(.int (1 : Int32))])) _
    obtain ⟨fs, hr, hrun, hended, hW, hsame⟩ := X95.leave (v := some (.int (1 : Int32))) (fun h => by rw [Bd.returns] at h; cases h)
    exact ⟨_, _, retN X95 hx (t := .boolean) Bd.returns (by simp) (hb hby at_96) hr, hrun, hended, _, _, rfl, ⟨rfl, N95⟩, ⟨_, rfl⟩, hW, hsame.mono (by decide) (by decide)⟩
set_option maxRecDepth 65536 in
set_option maxHeartbeats 40000000 in
theorem comes_1 {Post : Tables → Env → Array Value → State → Outcome → State → Prop} (hpost : ∀ tb e args s v u, (limb_1_1.after args s (.returned v) u = true ∧ limb_1_2.after args s (.returned v) u = true ∧ True) → FrameEnd s (.returned v) u (Jvm.fieldLocs frame_1_writes args s ++ Jvm.arrayLocs frame_1_arrays args s ++ Jvm.staticLocs frame_1_statics s) 16 128 → Post tb e args s (.returned v) u) :
    ArmFor flags0 classFile x code maxLocals ret World_1 tables_1 room_1 Calls_1 rest_1 Pre_1 Post := by
  intro l hfl _ _ p e ha hc hk s m args below hf hA hF happ hP
  obtain ⟨hcalls, hrest, hpre⟩ := hP
  obtain ⟨-, -, -, hnamed, -, -, -, hat⟩ := (Spec.applies_iff hf).mp happ
  obtain ⟨hg, hn⟩ := and_e (Cond.before_iff.mp (show (Jvm.Cond.and given_1 narrow_1).before args s = true from hpre))
  obtain ⟨a1, b1⟩ := and_e hg
  obtain ⟨w0, rfl⟩ : ∃ w0 : Value, args = #[w0] := by
    have hs : args.size = 1 := by simpa [Cond.value, given_1] using a1
    obtain ⟨L⟩ := args
    match L, hs with
    | [w0], _ => exact ⟨w0, rfl⟩
  have hw := fun d (hd : d ∈ tables_1) => atoms_spec (ws := Jvm.Cond.code x code maxLocals ret :: tables_1) hat d (List.mem_cons_of_mem _ hd)
  obtain ⟨i0, ei0⟩ := is_v b1
  obtain rfl : w0 = (.int i0) := Option.some.inj ei0
  obtain ⟨q0, t0⟩ := and_e hn
  obtain ⟨q1, t1⟩ := and_e t0
  obtain ⟨q2, t2⟩ := and_e t1
  obtain ⟨q3, t3⟩ := and_e t2
  obtain ⟨q4, t4⟩ := and_e t3
  obtain ⟨q5, t5⟩ := and_e t4
  obtain ⟨q6, t6⟩ := and_e t5
  obtain ⟨q7, t7⟩ := and_e t6
  obtain ⟨q8, t8⟩ := and_e t7
  obtain ⟨q9, t9⟩ := and_e t8
  obtain ⟨q10, t10⟩ := and_e t9
  have q11 := t10
  obtain ⟨v0, ev0⟩ := exa_v q0
  have S0 := Sta.start ev0 (Or.inr ⟨(hw _ (List.mem_of_getElem? (i := 3) rfl)), (hw _ (List.mem_of_getElem? (i := 4) rfl))⟩)
  have E0 := Exa.start ev0 q0
  obtain ⟨v1, ev1⟩ := exa_v q1
  have S1 := Sta.start ev1 (Or.inr ⟨(hw _ (List.mem_of_getElem? (i := 3) rfl)), (hw _ (List.mem_of_getElem? (i := 7) rfl))⟩)
  have E1 := Exa.start ev1 q1
  obtain ⟨v2, ev2⟩ := exa_v q2
  have S2 := Sta.start ev2 (Or.inr ⟨(hw _ (List.mem_of_getElem? (i := 3) rfl)), (hw _ (List.mem_of_getElem? (i := 9) rfl))⟩)
  have E2 := Exa.start ev2 q2
  obtain ⟨v3, ev3⟩ := exa_v q3
  have S3 := Sta.start ev3 (Or.inr ⟨(hw _ (List.mem_of_getElem? (i := 3) rfl)), (hw _ (List.mem_of_getElem? (i := 11) rfl))⟩)
  have E3 := Exa.start ev3 q3
  obtain ⟨v4, ev4⟩ := exa_v q4
  have S4 := Sta.start ev4 (Or.inr ⟨(hw _ (List.mem_of_getElem? (i := 3) rfl)), (hw _ (List.mem_of_getElem? (i := 13) rfl))⟩)
  have E4 := Exa.start ev4 q4
  obtain ⟨v5, ev5⟩ := exa_v q5
  have S5 := Sta.start ev5 (Or.inr ⟨(hw _ (List.mem_of_getElem? (i := 3) rfl)), (hw _ (List.mem_of_getElem? (i := 15) rfl))⟩)
  have E5 := Exa.start ev5 q5
  have F6 := own_fldI ev3 q6
  have F7 := own_fldI ev0 q7
  have F8 := own_fldI ev1 q8
  have F9 := own_fldI ev2 q9
  have F10 := own_fldI ev5 q10
  have F11 := own_fldI ev4 q11
  have P : Pins s s.heap (fun i => [v0, v1, v2, v3, v4, v5].getD i 0) := ⟨S0, E0, S1, E1, S2, E2, S3, E3, S4, E4, S5, E5, F6, F7, F8, F9, F10, F11⟩
  obtain ⟨n, o, h1, h2, h3, _, L, rfl, ⟨rfl, N⟩, hq⟩ := rm0 l s _ hw tables_1 s.heap s.heap.size (Nat.le_refl _) i0 (fun i => [v0, v1, v2, v3, v4, v5].getD i 0) P  p e ha hc hk s m _ below hf ((Spec.applies_iff_loose hf).mp happ).1 ⟨rfl, State.Warmed39.refl s, rfl⟩ trivial
  refine ⟨n, _, h1, h2, h3, hpost _ _ _ _ _ _ ⟨Cond.after_iff.mpr rfl, Cond.after_iff.mpr (eq_i res_at (Term.int_eval (1)) rfl), trivial⟩ ⟨hq.1, hq.2.1, (hq.2.2.sift fun y hy => Or.inr (N y hy)).mono (by decide) (by decide)⟩⟩
theorem main_1_1 : Claimed_1_1 := comes_1 fun _ _ _ _ _ _ h hF => ⟨h.1, hF⟩
theorem main_1_2 : Claimed_1_2 := comes_1 fun _ _ _ _ _ _ h hF => ⟨h.2.1, hF⟩
end Jvm.Pilot.@@N@@
namespace Jvm.Pilot.@@N@@
open Jvm Jvm.ClassFile Sem Op Lib Jvm.Free Jvm.Stand Jvm.Pilot.@@N@@.Jvm.D
/-! MADE BY PROGRAM (witnessworld.py) out of the Statement's table words and the real class files: 16 classes; the members and pool entries that the words name. The judged class is class 1, her method 1. -/
namespace start1
open Jvm.ClassFile
def u (s : String) : CpInfo := .utf8 (stringToUtf16 s)
/-- a pool by its gaps: so many unusable entries, then the entry; so many at the end -/
def gap : Nat → List CpInfo → List CpInfo
  | 0, r => r
  | n + 1, r => .unusable :: gap n r
def poolList (es : List (Nat × CpInfo)) (last : Nat) : List CpInfo := es.foldr (fun e r => gap e.1 (e.2 :: r)) (gap last [])
def pool (es : List (Nat × CpInfo)) (last : Nat) : Array CpInfo := ⟨poolList es last⟩
def fileOf (pool : Array CpInfo) (this : Nat) (attrs : Array Attribute := #[]) (ms : Array MethodInfo := #[]) (fl : Nat := 33) (sup : Nat := 0) (ifs : Array Nat := #[]) (fds : Array FieldInfo := #[]) : ClassFile where
  minorVersion := 0
  majorVersion := 65
  constantPool := pool
  accessFlags := fl
  thisClass := this
  superClass := sup
  interfaces := ifs
  fields := fds
  methods := ms
  attributes := attrs
def plain (name : String) (sup : Option ClassId) : Class where
  name := name
  kind := .ordinary
  loader := none
  accessFlags := 33
  super := sup
  interfaces := #[]
  cf := none
  fields := #[]
  methods := #[]
  instanceTypes := #[]
  staticTypes := #[]
  resolved := #[]
  callSites := []
  init := .initialized
  statics := none
  mirror := none

def pool0 : Array CpInfo := pool [(5, u "<init>"), (0, u "()V"), (1, .class_ 10), (1, u "java/lang/Object")] 113

def k0m0 : Method := { name := "<init>", desc := "()V", sig := { parameters := [], returnType := none }, accessFlags := 1, code := none }
/-- java/lang/Object -/
def k0 : Class := { plain "java/lang/Object" none with
  accessFlags := 33
  interfaces := #[]
  cf := some (fileOf pool0 8 #[] #[{ accessFlags := 1, nameIndex := 5, descriptorIndex := 6, attributes := #[] }] 33 0 #[] #[])
  fields := #[]
  methods := #[k0m0]
  instanceTypes := #[]
  staticTypes := #[]
  resolved := Array.replicate 124 none
  statics := none }

def pool1 : Array CpInfo := pool [(2, .class_ 4), (1, u "java/lang/Object"), (0, u "<init>"), (0, u "()V"), (0, .class_ 8), (0, u "com/example/proxybus/proxybus/model/TransactionKind"), (0, .fieldref 7 10), (0, .nameAndType 11 12), (0, u "LBMP_IMPORT"), (0, u "Lcom/example/proxybus/proxybus/model/TransactionKind;"), (0, .fieldref 7 14), (0, .nameAndType 15 12), (0, u "LBMP_EXPORT"), (0, .fieldref 7 17), (0, .nameAndType 18 12), (0, u "IMPORT"), (0, .fieldref 7 20), (0, .nameAndType 21 12), (0, u "EXPORT"), (0, .fieldref 7 23), (0, .nameAndType 24 12), (0, u "WHEEL"), (0, .fieldref 7 26), (0, .nameAndType 27 12), (0, u "INTERNAL"), (0, .integer 2147483647), (0, .methodref 30 31), (0, .class_ 32), (0, .nameAndType 33 34), (0, u "com/example/proxybus/proxybus/settlement/LbmpFlow"), (0, u "isLbmp"), (0, u "(Lcom/example/proxybus/proxybus/model/TransactionKind;)Z"), (0, .class_ 36), (0, u "com/example/proxybus/proxybus/settlement/LbmpFlowIsLbmpPinLaw"), (2, u "law"), (0, u "(I)Z")] 7

def k1m0 : Method := { name := "<init>", desc := "()V", sig := { parameters := [], returnType := none }, accessFlags := 2, code := none }
def k1c1 : Code := { maxStack := 4, maxLocals := 4, code := code, exceptionTable := #[], attributes := #[] }
def k1m1 : Method := { name := "law", desc := "(I)Z", sig := { parameters := [.int], returnType := some .boolean }, accessFlags := 9, code := some k1c1 }
/-- com/example/proxybus/proxybus/settlement/LbmpFlowIsLbmpPinLaw -/
def k1 : Class := { plain "com/example/proxybus/proxybus/settlement/LbmpFlowIsLbmpPinLaw" (some 0) with
  accessFlags := 49
  interfaces := #[]
  cf := some (fileOf pool1 35 #[] #[{ accessFlags := 2, nameIndex := 5, descriptorIndex := 6, attributes := #[] }, { accessFlags := 9, nameIndex := 39, descriptorIndex := 40, attributes := #[] }] 49 2 #[] #[])
  fields := #[]
  methods := #[k1m0, k1m1]
  instanceTypes := #[]
  staticTypes := #[]
  resolved := Array.replicate 48 none
  statics := none }

def pool2 : Array CpInfo := pool [(1, .class_ 2), (0, u "java/lang/constant/Constable"), (0, .class_ 4), (0, u "java/lang/Object")] 6

/-- java/lang/constant/Constable -/
def k2 : Class := { plain "java/lang/constant/Constable" (some 0) with
  accessFlags := 1537
  interfaces := #[]
  cf := some (fileOf pool2 1 #[] #[] 1537 3 #[] #[])
  fields := #[]
  methods := #[]
  instanceTypes := #[]
  staticTypes := #[]
  resolved := Array.replicate 11 none
  statics := none }

def pool3 : Array CpInfo := pool [(1, .class_ 2), (0, u "java/lang/Comparable"), (0, .class_ 4), (0, u "java/lang/Object")] 7

/-- java/lang/Comparable -/
def k3 : Class := { plain "java/lang/Comparable" (some 0) with
  accessFlags := 1537
  interfaces := #[]
  cf := some (fileOf pool3 1 #[] #[] 1537 3 #[] #[])
  fields := #[]
  methods := #[]
  instanceTypes := #[]
  staticTypes := #[]
  resolved := Array.replicate 12 none
  statics := none }

def pool4 : Array CpInfo := pool [(1, .class_ 2), (0, u "java/io/Serializable"), (0, .class_ 4), (0, u "java/lang/Object")] 2

/-- java/io/Serializable -/
def k4 : Class := { plain "java/io/Serializable" (some 0) with
  accessFlags := 1537
  interfaces := #[]
  cf := some (fileOf pool4 1 #[] #[] 1537 3 #[] #[])
  fields := #[]
  methods := #[]
  instanceTypes := #[]
  staticTypes := #[]
  resolved := Array.replicate 7 none
  statics := none }

def pool5 : Array CpInfo := pool [(2, .class_ 4), (1, u "java/lang/Enum"), (0, u "name"), (0, u "Ljava/lang/String;"), (2, u "ordinal"), (0, u "I"), (1, .class_ 14), (1, u "java/lang/Object"), (4, u "hash"), (86, .class_ 108), (1, u "java/lang/Enum$EnumDesc"), (2, .class_ 112), (0, u "java/lang/constant/Constable"), (0, .class_ 114), (0, u "java/lang/Comparable"), (0, .class_ 116), (0, u "java/io/Serializable")] 87

/-- java/lang/Enum -/
def k5 : Class := { plain "java/lang/Enum" (some 0) with
  accessFlags := 1057
  interfaces := #[2, 3, 4]
  cf := some (fileOf pool5 2 #[.nestMembers #[106]] #[] 1057 12 #[111, 113, 115] #[{ accessFlags := 18, nameIndex := 5, descriptorIndex := 6, attributes := #[] }, { accessFlags := 18, nameIndex := 9, descriptorIndex := 10, attributes := #[] }, { accessFlags := 2, nameIndex := 19, descriptorIndex := 10, attributes := #[] }])
  fields := #[{ name := "name", type := (.object "java/lang/String"), accessFlags := 18, slot := 0, constantValue := 0 }, { name := "ordinal", type := .int, accessFlags := 18, slot := 1, constantValue := 0 }, { name := "hash", type := .int, accessFlags := 2, slot := 2, constantValue := 0 }]
  methods := #[]
  instanceTypes := #[(.object "java/lang/String"), .int, .int]
  staticTypes := #[]
  resolved := Array.replicate 204 none
  statics := none }

def pool6 : Array CpInfo := pool [(1, .class_ 2), (0, u "com/example/proxybus/proxybus/model/TransactionKind"), (2, u "LBMP_IMPORT"), (0, u "Lcom/example/proxybus/proxybus/model/TransactionKind;"), (2, u "LBMP_EXPORT"), (2, u "IMPORT"), (2, u "EXPORT"), (2, u "WHEEL"), (2, u "INTERNAL"), (2, u "$VALUES"), (0, u "[Lcom/example/proxybus/proxybus/model/TransactionKind;"), (6, .class_ 34), (1, u "java/lang/Enum"), (8, u "label"), (0, u "Ljava/lang/String;")] 60

/-- com/example/proxybus/proxybus/model/TransactionKind -/
def k6 : Class := { plain "com/example/proxybus/proxybus/model/TransactionKind" (some 5) with
  accessFlags := 16433
  interfaces := #[]
  cf := some (fileOf pool6 1 #[] #[] 16433 32 #[] #[{ accessFlags := 16409, nameIndex := 5, descriptorIndex := 6, attributes := #[] }, { accessFlags := 16409, nameIndex := 9, descriptorIndex := 6, attributes := #[] }, { accessFlags := 16409, nameIndex := 12, descriptorIndex := 6, attributes := #[] }, { accessFlags := 16409, nameIndex := 15, descriptorIndex := 6, attributes := #[] }, { accessFlags := 16409, nameIndex := 18, descriptorIndex := 6, attributes := #[] }, { accessFlags := 16409, nameIndex := 21, descriptorIndex := 6, attributes := #[] }, { accessFlags := 18, nameIndex := 43, descriptorIndex := 44, attributes := #[] }, { accessFlags := 4122, nameIndex := 24, descriptorIndex := 25, attributes := #[] }])
  fields := #[{ name := "LBMP_IMPORT", type := (.object "com/example/proxybus/proxybus/model/TransactionKind"), accessFlags := 16409, slot := 0, constantValue := 0 }, { name := "LBMP_EXPORT", type := (.object "com/example/proxybus/proxybus/model/TransactionKind"), accessFlags := 16409, slot := 1, constantValue := 0 }, { name := "IMPORT", type := (.object "com/example/proxybus/proxybus/model/TransactionKind"), accessFlags := 16409, slot := 2, constantValue := 0 }, { name := "EXPORT", type := (.object "com/example/proxybus/proxybus/model/TransactionKind"), accessFlags := 16409, slot := 3, constantValue := 0 }, { name := "WHEEL", type := (.object "com/example/proxybus/proxybus/model/TransactionKind"), accessFlags := 16409, slot := 4, constantValue := 0 }, { name := "INTERNAL", type := (.object "com/example/proxybus/proxybus/model/TransactionKind"), accessFlags := 16409, slot := 5, constantValue := 0 }, { name := "label", type := (.object "java/lang/String"), accessFlags := 18, slot := 3, constantValue := 0 }, { name := "$VALUES", type := (.array (.object "com/example/proxybus/proxybus/model/TransactionKind")), accessFlags := 4122, slot := 6, constantValue := 0 }]
  methods := #[]
  instanceTypes := #[(.object "java/lang/String"), .int, .int, (.object "java/lang/String")]
  staticTypes := #[(.object "com/example/proxybus/proxybus/model/TransactionKind"), (.object "com/example/proxybus/proxybus/model/TransactionKind"), (.object "com/example/proxybus/proxybus/model/TransactionKind"), (.object "com/example/proxybus/proxybus/model/TransactionKind"), (.object "com/example/proxybus/proxybus/model/TransactionKind"), (.object "com/example/proxybus/proxybus/model/TransactionKind"), (.array (.object "com/example/proxybus/proxybus/model/TransactionKind"))]
  resolved := Array.replicate 105 none
  statics := some 0 }

def pool7 : Array CpInfo := pool [(2, .class_ 4), (1, u "java/lang/Object"), (0, u "<init>"), (0, u "()V"), (0, .fieldref 8 9), (0, .class_ 10), (0, .nameAndType 11 12), (0, u "com/example/proxybus/proxybus/model/TransactionKind"), (0, u "LBMP_IMPORT"), (0, u "Lcom/example/proxybus/proxybus/model/TransactionKind;"), (0, .fieldref 8 14), (0, .nameAndType 15 12), (0, u "LBMP_EXPORT"), (39, .class_ 56), (0, u "com/example/proxybus/proxybus/settlement/LbmpFlow"), (2, u "isLbmp"), (0, u "(Lcom/example/proxybus/proxybus/model/TransactionKind;)Z")] 14

def k7m0 : Method := { name := "<init>", desc := "()V", sig := { parameters := [], returnType := none }, accessFlags := 2, code := none }
def k7c1 : Code := { maxStack := 2, maxLocals := 1, code := prog_54_method_2_code, exceptionTable := #[], attributes := #[] }
def k7m1 : Method := { name := "isLbmp", desc := "(Lcom/example/proxybus/proxybus/model/TransactionKind;)Z", sig := { parameters := [(.object "com/example/proxybus/proxybus/model/TransactionKind")], returnType := some .boolean }, accessFlags := 8, code := some k7c1 }
/-- com/example/proxybus/proxybus/settlement/LbmpFlow -/
def k7 : Class := { plain "com/example/proxybus/proxybus/settlement/LbmpFlow" (some 0) with
  accessFlags := 48
  interfaces := #[]
  cf := some (fileOf pool7 55 #[] #[{ accessFlags := 2, nameIndex := 5, descriptorIndex := 6, attributes := #[] }, { accessFlags := 8, nameIndex := 59, descriptorIndex := 60, attributes := #[] }] 48 2 #[] #[])
  fields := #[]
  methods := #[k7m0, k7m1]
  instanceTypes := #[]
  staticTypes := #[]
  resolved := Array.replicate 75 none
  statics := none }

def pool8 : Array CpInfo := pool [(1, u "java/lang/Cloneable"), (0, .class_ 1), (0, u "java/lang/Object"), (0, .class_ 3)] 3

/-- java/lang/Cloneable -/
def k8 : Class := { plain "java/lang/Cloneable" (some 0) with
  accessFlags := 1537
  interfaces := #[]
  cf := some (fileOf pool8 2 #[] #[] 1537 4 #[] #[])
  fields := #[]
  methods := #[]
  instanceTypes := #[]
  staticTypes := #[]
  resolved := Array.replicate 8 none
  statics := none }

/-- the primitive boolean -/
def k9 : Class := { plain "boolean" none with kind := .primitive 'Z', accessFlags := 0x411 }
/-- [Z -/
def k10 : Class := { plain "[Z" (some 0) with kind := .array 9 .boolean, interfaces := #[8, 4], accessFlags := 1041 }

/-- the primitive byte -/
def k11 : Class := { plain "byte" none with kind := .primitive 'B', accessFlags := 0x411 }
/-- [B -/
def k12 : Class := { plain "[B" (some 0) with kind := .array 11 .byte, interfaces := #[8, 4], accessFlags := 1041 }

/-- the primitive int -/
def k13 : Class := { plain "int" none with kind := .primitive 'I', accessFlags := 0x411 }
/-- [I -/
def k14 : Class := { plain "[I" (some 0) with kind := .array 13 .int, interfaces := #[8, 4], accessFlags := 1041 }

/-- [Lcom/example/proxybus/proxybus/model/TransactionKind; -/
def k15 : Class := { plain "[Lcom/example/proxybus/proxybus/model/TransactionKind;" (some 0) with kind := .array 6 (.object "com/example/proxybus/proxybus/model/TransactionKind"), interfaces := #[8, 4], accessFlags := 1041 }

def heap : Heap := #[{ cls := 6, slots := #[.ref 1, .ref 2, .ref 3, .ref 4, .ref 5, .ref 6, .null], vm := .statics 6 },
  { cls := 6, slots := #[.null, .int 0, .int 0, .null], vm := .none },
  { cls := 6, slots := #[.null, .int 1, .int 0, .null], vm := .none },
  { cls := 6, slots := #[.null, .int 2, .int 0, .null], vm := .none },
  { cls := 6, slots := #[.null, .int 3, .int 0, .null], vm := .none },
  { cls := 6, slots := #[.null, .int 4, .int 0, .null], vm := .none },
  { cls := 6, slots := #[.null, .int 5, .int 0, .null], vm := .none }]
def classes : Array Class := #[k0, k1, k2, k3, k4, k5, k6, k7, k8, k9, k10, k11, k12, k13, k14, k15]
def interned : List (Array UInt16 × Addr) := []
def slotsUsed : Nat := 31
def theMethod : MethodId := ⟨1, 1⟩
def args0 : Array Value := #[.int 5]
def aboutOver (below : List Frame) : State where
  vm := { classes := classes, interned := interned.toArray }
  heap := heap
  slotsUsed := slotsUsed
  threads := #[{ frames := .invoking theMethod args0 :: below }]
def below0 : List Frame := [.native { method := ⟨0, 0⟩, args := #[] }]
def about1 : State := aboutOver below0
def p0 : Program := .bare "" "" ""
def e0 : Env := launch0.env 0 0 0
theorem w_frames : about1.frames = Frame.invoking theMethod args0 :: below0 := rfl
set_option maxRecDepth 65536 in
theorem w_args : argsFit about1.vm theMethod args0 = true := by decide +kernel
set_option maxRecDepth 65536 in
theorem w_heap : heapFits about1 = true := by decide +kernel
set_option maxRecDepth 65536 in
theorem w_runnable : about1.curStatus? = some .runnable := by decide +kernel
set_option maxRecDepth 65536 in
theorem w_alone : about1.alone = true := by decide +kernel
set_option maxRecDepth 65536 in
theorem w_named : about1.methodNamed? x = some theMethod := by decide +kernel
set_option maxRecDepth 65536 in
theorem w_hears : about1.hears theMethod below0 = true := by decide +kernel
set_option maxRecDepth 65536 in
theorem w_ripe : about1.ripe theMethod args0 below0 = true := by decide +kernel
theorem w_running : about1.status = .running := rfl
set_option maxRecDepth 65536 in
theorem w_room : about1.hasRoom e0.platform room_1 = true :=
  launch0.hasRoom_least _ room_1 (by decide +kernel) (by decide +kernel) (by decide +kernel) (by decide +kernel) (by decide +kernel) (by decide +kernel)
theorem allAtoms_all (ts : List Jvm.Cond) (a : Array Jvm.Value) (st : Jvm.State) : (allAtoms ts).before a st = ts.all (fun c => c.before a st) := by
  induction ts with
  | nil => rfl
  | cons c t ih =>
    show (Jvm.Cond.and c (allAtoms t)).before a st = _
    rw [Jvm.Cond.before_and, ih, List.all_cons]
def words1 : List Jvm.Cond := Jvm.Cond.code x code maxLocals ret :: tables_1
/-- a 'code' word, met by the world's own term for the bytes: nothing is compared byte by byte -/
theorem code_word {y : MethodName} {bytes : ByteArray} {mx : Nat} {rt : Option FieldType} {a : Array Value} {s : State} {m : MethodId} {meth : Method} {c : Code} (h1 : s.methodNamed? y = some m) (h2 : s.vm.method? m = some meth) (h3 : meth.code = some c) (h4 : c.code = bytes)
    (h5 : (c.maxLocals == mx && c.exceptionTable.isEmpty && decide (c.maxStack ≤ mostOperands) && decide (meth.sig.returnType = rt) && !meth.locks && decide (parseMethodDescriptor y.desc = some meth.sig)) = true) : (Jvm.Cond.code y bytes mx rt).before a s = true := by
  simp only [Bool.and_eq_true, beq_iff_eq, Bool.not_eq_true', decide_eq_true_eq] at h5
  obtain ⟨⟨⟨⟨⟨g1, g2⟩, g3⟩, g4⟩, g5⟩, g6⟩ := h5
  simp [Cond.before, Cond.holds, Cond.value, h1, h2, h3, h4, g1, g2, g3, g4, g5, g6]
def isCode : Jvm.Cond → Bool
  | .code _ _ _ _ => true
  | _ => false
theorem all_split {L : List Jvm.Cond} {P : Jvm.Cond → Bool} (h1 : L.all (fun c => isCode c || P c) = true) (h2 : ∀ c ∈ L.filter isCode, P c = true) : L.all P = true := by
  refine List.all_eq_true.mpr fun c hc => ?_
  have h := List.all_eq_true.mp h1 c hc
  rcases Bool.eq_false_or_eq_true (isCode c) with hi | hi
  · exact h2 c (List.mem_filter.mpr ⟨hc, hi⟩)
  · simpa [hi] using h
set_option maxRecDepth 65536 in
theorem w_c0 : (Jvm.Cond.code x code maxLocals ret).before args0 about1 = true := code_word (m := ⟨1, 1⟩) (meth := k1m1) (c := k1c1) (by decide +kernel) rfl rfl rfl (by decide +kernel)
set_option maxRecDepth 65536 in
theorem w_c1 : (Jvm.Cond.code ({ cls := "com/example/proxybus/proxybus/settlement/LbmpFlow", name := "isLbmp", desc := "(Lcom/example/proxybus/proxybus/model/TransactionKind;)Z" } : Jvm.MethodName) prog_54_method_2_code (1 : Nat) (Option.some Jvm.ClassFile.FieldType.boolean)).before args0 about1 = true := code_word (m := ⟨7, 1⟩) (meth := k7m1) (c := k7c1) (by decide +kernel) rfl rfl rfl (by decide +kernel)
def codes1 : List Jvm.Cond := [Jvm.Cond.code x code maxLocals ret, Jvm.Cond.code ({ cls := "com/example/proxybus/proxybus/settlement/LbmpFlow", name := "isLbmp", desc := "(Lcom/example/proxybus/proxybus/model/TransactionKind;)Z" } : Jvm.MethodName) prog_54_method_2_code (1 : Nat) (Option.some Jvm.ClassFile.FieldType.boolean)]
set_option maxRecDepth 65536 in
theorem codes_eq : words1.filter isCode = codes1 := rfl
theorem w_codes : ∀ c ∈ words1.filter isCode, c.before args0 about1 = true := by
  rw [codes_eq]
  intro c hc
  simp only [codes1, List.mem_cons, List.not_mem_nil, or_false] at hc
  rcases hc with rfl | rfl
  · exact w_c0
  · exact w_c1
set_option maxRecDepth 65536 in
theorem w_t1 : (words1.take 24).all (fun c => isCode c || c.before args0 about1) = true := by decide +kernel
set_option maxRecDepth 65536 in
theorem w_t2 : (words1.drop 24).all (fun c => isCode c || c.before args0 about1) = true := by decide +kernel
theorem w_tables : (allAtoms (Jvm.Cond.code x code maxLocals ret :: tables_1)).before args0 about1 = true := by
  rw [allAtoms_all]
  show words1.all (fun c => c.before args0 about1) = true
  refine all_split ?_ w_codes
  rw [← List.take_append_drop 24 words1, List.all_append, w_t1, w_t2]
  rfl
set_option maxRecDepth 65536 in
theorem w_case : (Jvm.Cond.and given_1 narrow_1).before args0 about1 = true := by decide +kernel
theorem w_applies : (headSpec (Jvm.Cond.code x code maxLocals ret :: tables_1) room_1).applies x e0.platform about1 = true :=
  (Spec.applies_iff w_frames).mpr ⟨w_running, w_runnable, w_alone, w_named, w_hears, w_ripe, w_room, w_tables⟩
theorem atStart : AtStart classFile x code maxLocals ret World_1 tables_1 room_1 Calls_1 rest_1 Pre_1 launch0 p0 e0 about1 theMethod args0 below0 :=
  ⟨lists_1, trivial, launch0.admits_env _ _ _, launch0.least_env, fairChoices_fair.cas, fairChoices_fair.clock, w_frames, w_args, w_heap, w_applies, trivial, trivial, w_case⟩
end start1
theorem witness_1 : WitnessClaimed_1 := ⟨start1.p0, start1.e0, start1.about1, start1.theMethod, start1.args0, start1.below0, start1.atStart⟩
end Jvm.Pilot.@@N@@
