import JvmDerived
import JvmDerived.Pilot.@@N@@Statement
import JvmDerived.Pilot.@@N@@Code
set_option linter.unusedVariables false
set_option linter.unusedSimpArgs false
@@BLOCK:NumsL.lean.txt@@
namespace Jvm.Pilot.@@N@@
open Jvm Jvm.ClassFile Sem Op Lib Jvm.Free Jvm.Stand Jvm.LawKit Jvm.RoadKit Bundle Jvm.Pilot.@@N@@.Jvm.D
/-- the run goes on from U and ends as Q says -/
def Goes (p : Program) (e : Env) (below : List Frame) (U : State) (Q : Outcome → State → Prop) : Prop := ∃ s₂ o, Steps p.tables e below U s₂ ∧ s₂.status = .running ∧ Ended s₂ below o ∧ Q o s₂
theorem Goes.by {p : Program} {e : Env} {below : List Frame} {U U' : State} {Q : Outcome → State → Prop} (h : ∀ t, Steps p.tables e below U' t → Steps p.tables e below U t) (g : Goes p e below U' Q) : Goes p e below U Q := by
  obtain ⟨s, o, h1, h2⟩ := g; exact ⟨s, o, h _ h1, h2⟩
theorem Goes.tr {p : Program} {e : Env} {below : List Frame} {U U' : State} {Q : Outcome → State → Prop} (h : Steps p.tables e below U U') (g : Goes p e below U' Q) : Goes p e below U Q := Goes.by (fun _ k => h.trans k) g
theorem Goes.join {α : Type} {p : Program} {e : Env} {below : List Frame} {U : State} {Q : Outcome → State → Prop} (P : α → Prop) (S : α → State) (k : (∀ z, P z → Goes p e below (S z) Q) → Goes p e below U Q) (j : ∀ z, P z → Goes p e below (S z) Q) : Goes p e below U Q := k j
theorem Goes.out {p : Program} {e : Env} {below : List Frame} {U : State} {Q : Outcome → State → Prop} (g : Goes p e below U Q) : ∃ s₂ o, Steps p.tables e below U s₂ ∧ s₂.status = .running ∧ Ended s₂ below o ∧ Q o s₂ := g
/-- a callee that writes nothing and returns r -/
def QP (r : Option Value) (h0 : Heap) (n0 : Nat) (v : Option Value) (h : Heap) (L : List Loc) : Prop := v = r ∧ Fr n0 L ∧ h = h0
/-- the law -/
def QL (n0 : Nat) (v : Option Value) (h : Heap) (L : List Loc) : Prop := v = some (.int 1) ∧ Fr n0 L
theorem own_lt {a b : Int64} (h : a < b) : lcmpW a b < 0 := by rw [lcW]; exact (lc_lt a b).mpr h
theorem own_nlt {a b : Int64} (h : ¬ a < b) : ¬ lcmpW a b < 0 := by rw [lcW]; exact fun q => h ((lc_lt a b).mp q)
theorem own_gt {a b : Int64} (h : b < a) : 0 < lcmpW a b := by rw [lcW]; exact (lc_gt a b).mpr h
theorem own_ngt {a b : Int64} (h : ¬ b < a) : ¬ 0 < lcmpW a b := by rw [lcW]; exact fun q => h ((lc_gt a b).mp q)
theorem own_eq {a b : Int64} (h : a = b) : lcmpW a b = 0 := by rw [lcW]; exact (lc_eq a b).mpr h
theorem own_neq {a b : Int64} (h : ¬ a = b) : ¬ lcmpW a b = 0 := by rw [lcW]; exact fun q => h ((lc_eq a b).mp q)
theorem own_staKeep {Z : State} {h h' : Heap} {C n d : String} {v : Value} {ws : List Addr} (F : Sta Z h C n d v) (K : Keep h h' ws) (q : ∀ x ∈ ws, ∃ c : Cell, h[x]? = some c ∧ c.vm.isStatics = false) : Sta Z h' C n d v := by
  obtain ⟨cf, i, k, f, st, cell, h1, h2, h3, h4, h5, h6, h7⟩ := F
  refine ⟨cf, i, k, f, st, cell, h1, h2, h3, h4, K.2.1 st cell h5 (fun hm => ?_), h6, h7⟩
  obtain ⟨c, e1, e2⟩ := q st hm
  cases e1.symm.trans h5; rw [e2] at h6; cases h6
theorem own_nsE {Z : State} {h : Heap} {a : Addr} {C : String} (F : Exa Z h a C) : ∃ c : Cell, h[a]? = some c ∧ c.vm.isStatics = false := by
  obtain ⟨c, k, h1, h2, h3, h4, h5⟩ := F; exact ⟨c, h1, h4⟩
theorem own_nsV {Z : State} {h : Heap} {a : Addr} {k : ClassId} {ty : FieldType} {n : Int32} {vs : List Value} {d : Value} (F : Arv Z h a k ty n vs d) : ∃ c : Cell, h[a]? = some c ∧ c.vm.isStatics = false := by
  obtain ⟨c, A, r⟩ := F; exact ⟨c, A.1, A.plain⟩
theorem own_fldI {s : State} {args : Array Value} {t : Term} {a : Addr} {C n d : String} {k : Int32} (ev : t.eval args s none [] s = some (.ref a)) (h : (Cond.eq (.field t C n d) (.int k)).value args s none s [] = some true) : Fld s s.heap a C n d (.int k) := by
  obtain ⟨x, y, h1, h2, k1, k2⟩ := cmp_v (Or.inl h)
  obtain rfl : y = .int k := (Option.some.inj h2).symm
  obtain ⟨z, rfl⟩ := k2
  have e1 : (Cond.eq (.field t C n d) (.int k)).value args s none s [] = some (decide (z = k)) := by simp [Cond.value, h1, h2]
  have e2 : z = k := gotT e1 h
  subst e2
  rw [fld_at ev] at h1
  exact Fld.start h1
theorem own_fldR {s : State} {args : Array Value} {t u : Term} {a b : Addr} {C n d : String} (ev : t.eval args s none [] s = some (.ref a)) (eu : u.eval args s none [] s = some (.ref b)) (h : (Cond.eq (.field t C n d) u).value args s none s [] = some true) : Fld s s.heap a C n d (.ref b) := by
  obtain ⟨x, y, h1, h2, k1, k2⟩ := cmp_v (Or.inl h)
  obtain rfl : y = .ref b := Option.some.inj (h2.symm.trans eu)
  have hx : x.isRef = true := k2.2
  have e2 : x = .ref b := gotT (eq_R h1 h2 hx rfl) h
  subst e2
  rw [fld_at ev] at h1
  exact Fld.start h1
def Pins (Z : State) (h : Heap) (w : Nat → Addr) : Prop := Sta Z h "com/example/proxybus/proxybus/model/TransactionKind" "LBMP_IMPORT" "Lcom/example/proxybus/proxybus/model/TransactionKind;" (.ref (w 0)) ∧ Exa Z h (w 0) "com/example/proxybus/proxybus/model/TransactionKind" ∧ Sta Z h "com/example/proxybus/proxybus/model/TransactionKind" "IMPORT" "Lcom/example/proxybus/proxybus/model/TransactionKind;" (.ref (w 1)) ∧ Exa Z h (w 1) "com/example/proxybus/proxybus/model/TransactionKind" ∧ Sta Z h "com/example/proxybus/proxybus/model/TransactionKind" "WHEEL" "Lcom/example/proxybus/proxybus/model/TransactionKind;" (.ref (w 2)) ∧ Exa Z h (w 2) "com/example/proxybus/proxybus/model/TransactionKind" ∧ Sta Z h "com/example/proxybus/proxybus/model/TransactionKind" "EXPORT" "Lcom/example/proxybus/proxybus/model/TransactionKind;" (.ref (w 3)) ∧ Exa Z h (w 3) "com/example/proxybus/proxybus/model/TransactionKind" ∧ Sta Z h "com/example/proxybus/proxybus/model/TransactionKind" "LBMP_EXPORT" "Lcom/example/proxybus/proxybus/model/TransactionKind;" (.ref (w 4)) ∧ Exa Z h (w 4) "com/example/proxybus/proxybus/model/TransactionKind" ∧ Sta Z h "com/example/proxybus/proxybus/model/TransactionKind" "INTERNAL" "Lcom/example/proxybus/proxybus/model/TransactionKind;" (.ref (w 5)) ∧ Exa Z h (w 5) "com/example/proxybus/proxybus/model/TransactionKind" ∧ Fld Z h (w 0) "java/lang/Enum" "ordinal" "I" (.int (0 : Int32)) ∧ Fld Z h (w 1) "java/lang/Enum" "ordinal" "I" (.int (2 : Int32)) ∧ Fld Z h (w 2) "java/lang/Enum" "ordinal" "I" (.int (4 : Int32)) ∧ Fld Z h (w 3) "java/lang/Enum" "ordinal" "I" (.int (3 : Int32)) ∧ Fld Z h (w 4) "java/lang/Enum" "ordinal" "I" (.int (1 : Int32)) ∧ Fld Z h (w 5) "java/lang/Enum" "ordinal" "I" (.int (5 : Int32))
theorem own_ne_0_1 {Z : State} {h : Heap} {w : Nat → Addr} (P : Pins Z h w) : w 0 ≠ w 1 := Fld.ne P.2.2.2.2.2.2.2.2.2.2.2.2.1 P.2.2.2.2.2.2.2.2.2.2.2.2.2.1 (fun q => absurd (Value.int.inj q) (by decide))
theorem own_ne_0_2 {Z : State} {h : Heap} {w : Nat → Addr} (P : Pins Z h w) : w 0 ≠ w 2 := Fld.ne P.2.2.2.2.2.2.2.2.2.2.2.2.1 P.2.2.2.2.2.2.2.2.2.2.2.2.2.2.1 (fun q => absurd (Value.int.inj q) (by decide))
theorem own_ne_1_2 {Z : State} {h : Heap} {w : Nat → Addr} (P : Pins Z h w) : w 1 ≠ w 2 := Fld.ne P.2.2.2.2.2.2.2.2.2.2.2.2.2.1 P.2.2.2.2.2.2.2.2.2.2.2.2.2.2.1 (fun q => absurd (Value.int.inj q) (by decide))
theorem own_ne_1_3 {Z : State} {h : Heap} {w : Nat → Addr} (P : Pins Z h w) : w 1 ≠ w 3 := Fld.ne P.2.2.2.2.2.2.2.2.2.2.2.2.2.1 P.2.2.2.2.2.2.2.2.2.2.2.2.2.2.2.1 (fun q => absurd (Value.int.inj q) (by decide))
theorem own_ne_1_4 {Z : State} {h : Heap} {w : Nat → Addr} (P : Pins Z h w) : w 1 ≠ w 4 := Fld.ne P.2.2.2.2.2.2.2.2.2.2.2.2.2.1 P.2.2.2.2.2.2.2.2.2.2.2.2.2.2.2.2.1 (fun q => absurd (Value.int.inj q) (by decide))
theorem own_ne_1_5 {Z : State} {h : Heap} {w : Nat → Addr} (P : Pins Z h w) : w 1 ≠ w 5 := Fld.ne P.2.2.2.2.2.2.2.2.2.2.2.2.2.1 P.2.2.2.2.2.2.2.2.2.2.2.2.2.2.2.2.2 (fun q => absurd (Value.int.inj q) (by decide))
theorem own_ne_2_3 {Z : State} {h : Heap} {w : Nat → Addr} (P : Pins Z h w) : w 2 ≠ w 3 := Fld.ne P.2.2.2.2.2.2.2.2.2.2.2.2.2.2.1 P.2.2.2.2.2.2.2.2.2.2.2.2.2.2.2.1 (fun q => absurd (Value.int.inj q) (by decide))
theorem own_ne_2_4 {Z : State} {h : Heap} {w : Nat → Addr} (P : Pins Z h w) : w 2 ≠ w 4 := Fld.ne P.2.2.2.2.2.2.2.2.2.2.2.2.2.2.1 P.2.2.2.2.2.2.2.2.2.2.2.2.2.2.2.2.1 (fun q => absurd (Value.int.inj q) (by decide))
theorem own_ne_2_5 {Z : State} {h : Heap} {w : Nat → Addr} (P : Pins Z h w) : w 2 ≠ w 5 := Fld.ne P.2.2.2.2.2.2.2.2.2.2.2.2.2.2.1 P.2.2.2.2.2.2.2.2.2.2.2.2.2.2.2.2.2 (fun q => absurd (Value.int.inj q) (by decide))
theorem own_split (x : Int32) : ((x &&& (2147483647 : Int32)) % (6 : Int32)) = (0 : Int32) ∨ ((x &&& (2147483647 : Int32)) % (6 : Int32)) = (1 : Int32) ∨ ((x &&& (2147483647 : Int32)) % (6 : Int32)) = (2 : Int32) ∨ ((x &&& (2147483647 : Int32)) % (6 : Int32)) = (3 : Int32) ∨ ((x &&& (2147483647 : Int32)) % (6 : Int32)) = (4 : Int32) ∨ ((x &&& (2147483647 : Int32)) % (6 : Int32)) = (5 : Int32) := by
  have e1 : (x &&& (2147483647 : Int32)).toInt = x.toInt % 2 ^ 31 := Jvm.Kit.i32_mask x (2147483647 : Int32) (k := 31) (by decide) (by decide)
  have e2 : (((x &&& (2147483647 : Int32)) % (6 : Int32))).toInt = (x &&& (2147483647 : Int32)).toInt % (6 : Int32).toInt := Jvm.Kit.i32_rem_nonneg (by omega)
  rw [show (6 : Int32).toInt = 6 from by decide] at e2
  simp only [← Int32.toInt_inj]
  rw [show (0 : Int32).toInt = 0 from by decide, show (1 : Int32).toInt = 1 from by decide, show (2 : Int32).toInt = 2 from by decide, show (3 : Int32).toInt = 3 from by decide, show (4 : Int32).toInt = 4 from by decide, show (5 : Int32).toInt = 5 from by decide]
  omega
theorem d1_0 : decode prog_59_method_2_code 0 = .ok (.aload_n 0, 1) := by decide +kernel
theorem d1_1 : decode prog_59_method_2_code 1 = .ok (.getstatic 7, 3) := by decide +kernel
theorem d1_4 : decode prog_59_method_2_code 4 = .ok (.if_acmp .eq 10, 3) := by decide +kernel
theorem d1_7 : decode prog_59_method_2_code 7 = .ok (.aload_n 0, 1) := by decide +kernel
theorem d1_8 : decode prog_59_method_2_code 8 = .ok (.getstatic 13, 3) := by decide +kernel
theorem d1_11 : decode prog_59_method_2_code 11 = .ok (.if_acmp .ne 7, 3) := by decide +kernel
theorem d1_18 : decode prog_59_method_2_code 18 = .ok (.iconst 0, 1) := by decide +kernel
theorem d1_19 : decode prog_59_method_2_code 19 = .ok (.ireturn, 1) := by decide +kernel
theorem ef1_R (m : MethodId) (x0 : Addr) : entryFrame m #[(.ref x0)] 1 = mkF m 0 #[.val (.ref x0)] [] := by first | (simp [entryFrame, mkF, argsToLocals, Value.category]; done) | rfl
theorem pn0 : plainName "com/example/proxybus/proxybus/settlement/TucFlow" = true := by first | (simp [plainName, overriddenIn]; done) | decide +kernel
theorem pd0 : parseMethodDescriptor "(Lcom/example/proxybus/proxybus/model/TransactionKind;)Z" = some ⟨[(.object "com/example/proxybus/proxybus/model/TransactionKind")], some .boolean⟩ := by decide +kernel
theorem d1_14 : decode prog_59_method_2_code 14 = .ok (.iconst 1, 1) := by decide +kernel
theorem d1_15 : decode prog_59_method_2_code 15 = .ok (.goto 4, 3) := by decide +kernel
theorem ef0_I (m : MethodId) (x0 : Int32) : entryFrame m #[(.int x0)] maxLocals = mkF m 0 #[.val (.int x0), .unset, .unset, .unset] [] := by first | (simp [entryFrame, mkF, argsToLocals, Value.category, maxLocals]; done) | rfl
theorem pn1 : plainName "com/example/proxybus/proxybus/settlement/TucFlowIsTucPinLaw" = true := by first | (simp [plainName, overriddenIn]; done) | decide +kernel
set_option maxRecDepth 65536 in
set_option maxHeartbeats 40000000 in
theorem r1_0 (l : Launch) (Z : State) (a0 : Array Value) (hw : ∀ d ∈ tables_1, d.before a0 Z = true) (ws : List Jvm.Cond) (h0 : Heap) (n0 : Nat) (Z0 : n0 ≤ h0.size) (w : Nat → Addr) (P : Pins Z h0 w) :
    MetFree l (⟨"com/example/proxybus/proxybus/settlement/TucFlow", "isTuc", "(Lcom/example/proxybus/proxybus/model/TransactionKind;)Z"⟩ : MethodName) (head1 (Jvm.Cond.code (⟨"com/example/proxybus/proxybus/settlement/TucFlow", "isTuc", "(Lcom/example/proxybus/proxybus/model/TransactionKind;)Z"⟩ : MethodName) prog_59_method_2_code 1 (some .boolean) :: ws) ({ frames := 0, cells := 0, slots := 0, locals := 0 } : Room)) (fun a U => a = #[(.ref (w 0))] ∧ Z.Warmed39 U.vm ∧ U.heap = h0) (fun _ _ _ _ _ => True) (fun _ U o U' => ∃ v L, o = .returned v ∧ QP (some (.int (0 : Int32))) h0 n0 v U'.heap L ∧ FrameEnd U o U' L ({ frames := 0, cells := 0, slots := 0, locals := 0 } : Room).cells ({ frames := 0, cells := 0, slots := 0, locals := 0 } : Room).slots) := by
  refine MetFree.of_bodySF (plainFor_of_name pn0) hisR ?_
  intro p e s m args below meth c s₁ Bd hml0 hP hK
  obtain ⟨rfl, hZ, hh⟩ := hP
  have hx := Bd.exec
  have hby := Bd.bytes
  have hml : c.maxLocals = 1 := hml0
  have hown : s.vm.findClass "com/example/proxybus/proxybus/settlement/TucFlow" = some m.cls := findClass_of_methodNamed Bd.named
  have hnm := (name_of_methodNamed Bd.named Bd.method).1
  have X0 : Stand p l e ({ frames := 0, cells := 0, slots := 0, locals := 0 } : Room) s m #[(.ref (w 0))] below meth c s₁ [] 0 0 := Stand.of_body Bd
  have e0 : s₁.heap = h0 := by rw [← hh, Bd.state]; rfl
  have N0 := Fr.nil n0
  refine Goes.out (Goes.by (fun t k => castTop (ef1_R m ((w 0))) k) ?_)
  show Goes p e below (s₁.setTop (mkF m 0 #[.val (.ref (w 0))] [])) _
  refine Goes.by (fun _ k => XS.aloadN X0.here hx rfl (hb hby d1_0) rfl rfl k) ?_
  obtain ⟨T2, X2, e2, st2⟩ := getS2 X0 hx hZ hown (host := "") (Or.inl (hw _ (List.mem_of_getElem? (i := 8) rfl))) Via.refl e0 P.2.2.1 (g := (mkF m 1 #[.val (.ref (w 0))] [(.ref (w 0))])) rfl (hb hby d1_1)
  refine Goes.by st2 ?_
  refine Goes.by (fun _ k => Jvm.RoadKit.acmp (g := (mkF m 4 #[.val (.ref (w 0))] [(.ref (w 1)), (.ref (w 0))])) X2 hx rfl rfl rfl (pc0 := 4) (pc' := 7) (same := false) rfl (hb hby d1_4) rfl (decide_eq_false fun q => (own_ne_0_1 P) (Value.ref.inj q)) (by decide) (by decide) (XS.aloadN X2.here hx rfl (hb hby d1_7) rfl rfl k)) ?_
  obtain ⟨T3, X3, e3, st3⟩ := getS2 X2 hx hZ hown (host := "") (Or.inl (hw _ (List.mem_of_getElem? (i := 10) rfl))) Via.refl e2 P.2.2.2.2.1 (g := (mkF m 8 #[.val (.ref (w 0))] [(.ref (w 0))])) rfl (hb hby d1_8)
  refine Goes.by st3 ?_
  refine Goes.by (fun _ k => Jvm.RoadKit.acmp (g := (mkF m 11 #[.val (.ref (w 0))] [(.ref (w 2)), (.ref (w 0))])) X3 hx rfl rfl rfl (pc0 := 11) (pc' := 18) (same := false) rfl (hb hby d1_11) rfl (decide_eq_false fun q => (own_ne_0_2 P) (Value.ref.inj q)) (by decide) (by decide) (XS.iconst X3.here hx rfl (hb hby d1_18) k)) ?_
  show Goes p e below (T3.setTop (mkF m 19 #[.val (.ref (w 0))] [(.int (0 : Int32))])) _
  obtain ⟨fs, hr, hrun, hended, hW, hsame⟩ := X3.leave (v := some (.int (0 : Int32))) (fun h => by rw [Bd.returns] at h; cases h)
  exact ⟨_, _, retN X3 hx (t := .boolean) Bd.returns (by simp) (hb hby d1_19) hr, hrun, hended, _, _, rfl, ⟨rfl, N0, e3⟩, ⟨_, rfl⟩, hW, hsame.mono (by decide) (by decide)⟩
set_option maxRecDepth 65536 in
set_option maxHeartbeats 40000000 in
theorem r1_1 (l : Launch) (Z : State) (a0 : Array Value) (hw : ∀ d ∈ tables_1, d.before a0 Z = true) (ws : List Jvm.Cond) (h0 : Heap) (n0 : Nat) (Z0 : n0 ≤ h0.size) (w : Nat → Addr) (P : Pins Z h0 w) :
    MetFree l (⟨"com/example/proxybus/proxybus/settlement/TucFlow", "isTuc", "(Lcom/example/proxybus/proxybus/model/TransactionKind;)Z"⟩ : MethodName) (head1 (Jvm.Cond.code (⟨"com/example/proxybus/proxybus/settlement/TucFlow", "isTuc", "(Lcom/example/proxybus/proxybus/model/TransactionKind;)Z"⟩ : MethodName) prog_59_method_2_code 1 (some .boolean) :: ws) ({ frames := 0, cells := 0, slots := 0, locals := 0 } : Room)) (fun a U => a = #[(.ref (w 4))] ∧ Z.Warmed39 U.vm ∧ U.heap = h0) (fun _ _ _ _ _ => True) (fun _ U o U' => ∃ v L, o = .returned v ∧ QP (some (.int (0 : Int32))) h0 n0 v U'.heap L ∧ FrameEnd U o U' L ({ frames := 0, cells := 0, slots := 0, locals := 0 } : Room).cells ({ frames := 0, cells := 0, slots := 0, locals := 0 } : Room).slots) := by
  refine MetFree.of_bodySF (plainFor_of_name pn0) hisR ?_
  intro p e s m args below meth c s₁ Bd hml0 hP hK
  obtain ⟨rfl, hZ, hh⟩ := hP
  have hx := Bd.exec
  have hby := Bd.bytes
  have hml : c.maxLocals = 1 := hml0
  have hown : s.vm.findClass "com/example/proxybus/proxybus/settlement/TucFlow" = some m.cls := findClass_of_methodNamed Bd.named
  have hnm := (name_of_methodNamed Bd.named Bd.method).1
  have X0 : Stand p l e ({ frames := 0, cells := 0, slots := 0, locals := 0 } : Room) s m #[(.ref (w 4))] below meth c s₁ [] 0 0 := Stand.of_body Bd
  have e0 : s₁.heap = h0 := by rw [← hh, Bd.state]; rfl
  have N0 := Fr.nil n0
  refine Goes.out (Goes.by (fun t k => castTop (ef1_R m ((w 4))) k) ?_)
  show Goes p e below (s₁.setTop (mkF m 0 #[.val (.ref (w 4))] [])) _
  refine Goes.by (fun _ k => XS.aloadN X0.here hx rfl (hb hby d1_0) rfl rfl k) ?_
  obtain ⟨T6, X6, e6, st6⟩ := getS2 X0 hx hZ hown (host := "") (Or.inl (hw _ (List.mem_of_getElem? (i := 8) rfl))) Via.refl e0 P.2.2.1 (g := (mkF m 1 #[.val (.ref (w 4))] [(.ref (w 4))])) rfl (hb hby d1_1)
  refine Goes.by st6 ?_
  refine Goes.by (fun _ k => Jvm.RoadKit.acmp (g := (mkF m 4 #[.val (.ref (w 4))] [(.ref (w 1)), (.ref (w 4))])) X6 hx rfl rfl rfl (pc0 := 4) (pc' := 7) (same := false) rfl (hb hby d1_4) rfl (decide_eq_false fun q => (Ne.symm (own_ne_1_4 P)) (Value.ref.inj q)) (by decide) (by decide) (XS.aloadN X6.here hx rfl (hb hby d1_7) rfl rfl k)) ?_
  obtain ⟨T7, X7, e7, st7⟩ := getS2 X6 hx hZ hown (host := "") (Or.inl (hw _ (List.mem_of_getElem? (i := 10) rfl))) Via.refl e6 P.2.2.2.2.1 (g := (mkF m 8 #[.val (.ref (w 4))] [(.ref (w 4))])) rfl (hb hby d1_8)
  refine Goes.by st7 ?_
  refine Goes.by (fun _ k => Jvm.RoadKit.acmp (g := (mkF m 11 #[.val (.ref (w 4))] [(.ref (w 2)), (.ref (w 4))])) X7 hx rfl rfl rfl (pc0 := 11) (pc' := 18) (same := false) rfl (hb hby d1_11) rfl (decide_eq_false fun q => (Ne.symm (own_ne_2_4 P)) (Value.ref.inj q)) (by decide) (by decide) (XS.iconst X7.here hx rfl (hb hby d1_18) k)) ?_
  show Goes p e below (T7.setTop (mkF m 19 #[.val (.ref (w 4))] [(.int (0 : Int32))])) _
  obtain ⟨fs, hr, hrun, hended, hW, hsame⟩ := X7.leave (v := some (.int (0 : Int32))) (fun h => by rw [Bd.returns] at h; cases h)
  exact ⟨_, _, retN X7 hx (t := .boolean) Bd.returns (by simp) (hb hby d1_19) hr, hrun, hended, _, _, rfl, ⟨rfl, N0, e7⟩, ⟨_, rfl⟩, hW, hsame.mono (by decide) (by decide)⟩
set_option maxRecDepth 65536 in
set_option maxHeartbeats 40000000 in
theorem r1_2 (l : Launch) (Z : State) (a0 : Array Value) (hw : ∀ d ∈ tables_1, d.before a0 Z = true) (ws : List Jvm.Cond) (h0 : Heap) (n0 : Nat) (Z0 : n0 ≤ h0.size) (w : Nat → Addr) (P : Pins Z h0 w) :
    MetFree l (⟨"com/example/proxybus/proxybus/settlement/TucFlow", "isTuc", "(Lcom/example/proxybus/proxybus/model/TransactionKind;)Z"⟩ : MethodName) (head1 (Jvm.Cond.code (⟨"com/example/proxybus/proxybus/settlement/TucFlow", "isTuc", "(Lcom/example/proxybus/proxybus/model/TransactionKind;)Z"⟩ : MethodName) prog_59_method_2_code 1 (some .boolean) :: ws) ({ frames := 0, cells := 0, slots := 0, locals := 0 } : Room)) (fun a U => a = #[(.ref (w 1))] ∧ Z.Warmed39 U.vm ∧ U.heap = h0) (fun _ _ _ _ _ => True) (fun _ U o U' => ∃ v L, o = .returned v ∧ QP (some (.int (1 : Int32))) h0 n0 v U'.heap L ∧ FrameEnd U o U' L ({ frames := 0, cells := 0, slots := 0, locals := 0 } : Room).cells ({ frames := 0, cells := 0, slots := 0, locals := 0 } : Room).slots) := by
  refine MetFree.of_bodySF (plainFor_of_name pn0) hisR ?_
  intro p e s m args below meth c s₁ Bd hml0 hP hK
  obtain ⟨rfl, hZ, hh⟩ := hP
  have hx := Bd.exec
  have hby := Bd.bytes
  have hml : c.maxLocals = 1 := hml0
  have hown : s.vm.findClass "com/example/proxybus/proxybus/settlement/TucFlow" = some m.cls := findClass_of_methodNamed Bd.named
  have hnm := (name_of_methodNamed Bd.named Bd.method).1
  have X0 : Stand p l e ({ frames := 0, cells := 0, slots := 0, locals := 0 } : Room) s m #[(.ref (w 1))] below meth c s₁ [] 0 0 := Stand.of_body Bd
  have e0 : s₁.heap = h0 := by rw [← hh, Bd.state]; rfl
  have N0 := Fr.nil n0
  refine Goes.out (Goes.by (fun t k => castTop (ef1_R m ((w 1))) k) ?_)
  show Goes p e below (s₁.setTop (mkF m 0 #[.val (.ref (w 1))] [])) _
  refine Goes.by (fun _ k => XS.aloadN X0.here hx rfl (hb hby d1_0) rfl rfl k) ?_
  obtain ⟨T10, X10, e10, st10⟩ := getS2 X0 hx hZ hown (host := "") (Or.inl (hw _ (List.mem_of_getElem? (i := 8) rfl))) Via.refl e0 P.2.2.1 (g := (mkF m 1 #[.val (.ref (w 1))] [(.ref (w 1))])) rfl (hb hby d1_1)
  refine Goes.by st10 ?_
  refine Goes.by (fun _ k => Jvm.RoadKit.acmp (g := (mkF m 4 #[.val (.ref (w 1))] [(.ref (w 1)), (.ref (w 1))])) X10 hx rfl rfl rfl (pc0 := 4) (pc' := 14) (same := true) rfl (hb hby d1_4) rfl (decide_eq_true rfl) (by decide) (by decide) (XS.iconst X10.here hx rfl (hb hby d1_14) (XS.goto X10.here hx rfl (pc0 := 15) (pc' := 19) rfl (hb hby d1_15) (by decide) (by decide) k))) ?_
  show Goes p e below (T10.setTop (mkF m 19 #[.val (.ref (w 1))] [(.int (1 : Int32))])) _
  obtain ⟨fs, hr, hrun, hended, hW, hsame⟩ := X10.leave (v := some (.int (1 : Int32))) (fun h => by rw [Bd.returns] at h; cases h)
  exact ⟨_, _, retN X10 hx (t := .boolean) Bd.returns (by simp) (hb hby d1_19) hr, hrun, hended, _, _, rfl, ⟨rfl, N0, e10⟩, ⟨_, rfl⟩, hW, hsame.mono (by decide) (by decide)⟩
set_option maxRecDepth 65536 in
set_option maxHeartbeats 40000000 in
theorem r1_3 (l : Launch) (Z : State) (a0 : Array Value) (hw : ∀ d ∈ tables_1, d.before a0 Z = true) (ws : List Jvm.Cond) (h0 : Heap) (n0 : Nat) (Z0 : n0 ≤ h0.size) (w : Nat → Addr) (P : Pins Z h0 w) :
    MetFree l (⟨"com/example/proxybus/proxybus/settlement/TucFlow", "isTuc", "(Lcom/example/proxybus/proxybus/model/TransactionKind;)Z"⟩ : MethodName) (head1 (Jvm.Cond.code (⟨"com/example/proxybus/proxybus/settlement/TucFlow", "isTuc", "(Lcom/example/proxybus/proxybus/model/TransactionKind;)Z"⟩ : MethodName) prog_59_method_2_code 1 (some .boolean) :: ws) ({ frames := 0, cells := 0, slots := 0, locals := 0 } : Room)) (fun a U => a = #[(.ref (w 3))] ∧ Z.Warmed39 U.vm ∧ U.heap = h0) (fun _ _ _ _ _ => True) (fun _ U o U' => ∃ v L, o = .returned v ∧ QP (some (.int (0 : Int32))) h0 n0 v U'.heap L ∧ FrameEnd U o U' L ({ frames := 0, cells := 0, slots := 0, locals := 0 } : Room).cells ({ frames := 0, cells := 0, slots := 0, locals := 0 } : Room).slots) := by
  refine MetFree.of_bodySF (plainFor_of_name pn0) hisR ?_
  intro p e s m args below meth c s₁ Bd hml0 hP hK
  obtain ⟨rfl, hZ, hh⟩ := hP
  have hx := Bd.exec
  have hby := Bd.bytes
  have hml : c.maxLocals = 1 := hml0
  have hown : s.vm.findClass "com/example/proxybus/proxybus/settlement/TucFlow" = some m.cls := findClass_of_methodNamed Bd.named
  have hnm := (name_of_methodNamed Bd.named Bd.method).1
  have X0 : Stand p l e ({ frames := 0, cells := 0, slots := 0, locals := 0 } : Room) s m #[(.ref (w 3))] below meth c s₁ [] 0 0 := Stand.of_body Bd
  have e0 : s₁.heap = h0 := by rw [← hh, Bd.state]; rfl
  have N0 := Fr.nil n0
  refine Goes.out (Goes.by (fun t k => castTop (ef1_R m ((w 3))) k) ?_)
  show Goes p e below (s₁.setTop (mkF m 0 #[.val (.ref (w 3))] [])) _
  refine Goes.by (fun _ k => XS.aloadN X0.here hx rfl (hb hby d1_0) rfl rfl k) ?_
  obtain ⟨T13, X13, e13, st13⟩ := getS2 X0 hx hZ hown (host := "") (Or.inl (hw _ (List.mem_of_getElem? (i := 8) rfl))) Via.refl e0 P.2.2.1 (g := (mkF m 1 #[.val (.ref (w 3))] [(.ref (w 3))])) rfl (hb hby d1_1)
  refine Goes.by st13 ?_
  refine Goes.by (fun _ k => Jvm.RoadKit.acmp (g := (mkF m 4 #[.val (.ref (w 3))] [(.ref (w 1)), (.ref (w 3))])) X13 hx rfl rfl rfl (pc0 := 4) (pc' := 7) (same := false) rfl (hb hby d1_4) rfl (decide_eq_false fun q => (Ne.symm (own_ne_1_3 P)) (Value.ref.inj q)) (by decide) (by decide) (XS.aloadN X13.here hx rfl (hb hby d1_7) rfl rfl k)) ?_
  obtain ⟨T14, X14, e14, st14⟩ := getS2 X13 hx hZ hown (host := "") (Or.inl (hw _ (List.mem_of_getElem? (i := 10) rfl))) Via.refl e13 P.2.2.2.2.1 (g := (mkF m 8 #[.val (.ref (w 3))] [(.ref (w 3))])) rfl (hb hby d1_8)
  refine Goes.by st14 ?_
  refine Goes.by (fun _ k => Jvm.RoadKit.acmp (g := (mkF m 11 #[.val (.ref (w 3))] [(.ref (w 2)), (.ref (w 3))])) X14 hx rfl rfl rfl (pc0 := 11) (pc' := 18) (same := false) rfl (hb hby d1_11) rfl (decide_eq_false fun q => (Ne.symm (own_ne_2_3 P)) (Value.ref.inj q)) (by decide) (by decide) (XS.iconst X14.here hx rfl (hb hby d1_18) k)) ?_
  show Goes p e below (T14.setTop (mkF m 19 #[.val (.ref (w 3))] [(.int (0 : Int32))])) _
  obtain ⟨fs, hr, hrun, hended, hW, hsame⟩ := X14.leave (v := some (.int (0 : Int32))) (fun h => by rw [Bd.returns] at h; cases h)
  exact ⟨_, _, retN X14 hx (t := .boolean) Bd.returns (by simp) (hb hby d1_19) hr, hrun, hended, _, _, rfl, ⟨rfl, N0, e14⟩, ⟨_, rfl⟩, hW, hsame.mono (by decide) (by decide)⟩
set_option maxRecDepth 65536 in
set_option maxHeartbeats 40000000 in
theorem r1_4 (l : Launch) (Z : State) (a0 : Array Value) (hw : ∀ d ∈ tables_1, d.before a0 Z = true) (ws : List Jvm.Cond) (h0 : Heap) (n0 : Nat) (Z0 : n0 ≤ h0.size) (w : Nat → Addr) (P : Pins Z h0 w) :
    MetFree l (⟨"com/example/proxybus/proxybus/settlement/TucFlow", "isTuc", "(Lcom/example/proxybus/proxybus/model/TransactionKind;)Z"⟩ : MethodName) (head1 (Jvm.Cond.code (⟨"com/example/proxybus/proxybus/settlement/TucFlow", "isTuc", "(Lcom/example/proxybus/proxybus/model/TransactionKind;)Z"⟩ : MethodName) prog_59_method_2_code 1 (some .boolean) :: ws) ({ frames := 0, cells := 0, slots := 0, locals := 0 } : Room)) (fun a U => a = #[(.ref (w 2))] ∧ Z.Warmed39 U.vm ∧ U.heap = h0) (fun _ _ _ _ _ => True) (fun _ U o U' => ∃ v L, o = .returned v ∧ QP (some (.int (1 : Int32))) h0 n0 v U'.heap L ∧ FrameEnd U o U' L ({ frames := 0, cells := 0, slots := 0, locals := 0 } : Room).cells ({ frames := 0, cells := 0, slots := 0, locals := 0 } : Room).slots) := by
  refine MetFree.of_bodySF (plainFor_of_name pn0) hisR ?_
  intro p e s m args below meth c s₁ Bd hml0 hP hK
  obtain ⟨rfl, hZ, hh⟩ := hP
  have hx := Bd.exec
  have hby := Bd.bytes
  have hml : c.maxLocals = 1 := hml0
  have hown : s.vm.findClass "com/example/proxybus/proxybus/settlement/TucFlow" = some m.cls := findClass_of_methodNamed Bd.named
  have hnm := (name_of_methodNamed Bd.named Bd.method).1
  have X0 : Stand p l e ({ frames := 0, cells := 0, slots := 0, locals := 0 } : Room) s m #[(.ref (w 2))] below meth c s₁ [] 0 0 := Stand.of_body Bd
  have e0 : s₁.heap = h0 := by rw [← hh, Bd.state]; rfl
  have N0 := Fr.nil n0
  refine Goes.out (Goes.by (fun t k => castTop (ef1_R m ((w 2))) k) ?_)
  show Goes p e below (s₁.setTop (mkF m 0 #[.val (.ref (w 2))] [])) _
  refine Goes.by (fun _ k => XS.aloadN X0.here hx rfl (hb hby d1_0) rfl rfl k) ?_
  obtain ⟨T17, X17, e17, st17⟩ := getS2 X0 hx hZ hown (host := "") (Or.inl (hw _ (List.mem_of_getElem? (i := 8) rfl))) Via.refl e0 P.2.2.1 (g := (mkF m 1 #[.val (.ref (w 2))] [(.ref (w 2))])) rfl (hb hby d1_1)
  refine Goes.by st17 ?_
  refine Goes.by (fun _ k => Jvm.RoadKit.acmp (g := (mkF m 4 #[.val (.ref (w 2))] [(.ref (w 1)), (.ref (w 2))])) X17 hx rfl rfl rfl (pc0 := 4) (pc' := 7) (same := false) rfl (hb hby d1_4) rfl (decide_eq_false fun q => (Ne.symm (own_ne_1_2 P)) (Value.ref.inj q)) (by decide) (by decide) (XS.aloadN X17.here hx rfl (hb hby d1_7) rfl rfl k)) ?_
  obtain ⟨T18, X18, e18, st18⟩ := getS2 X17 hx hZ hown (host := "") (Or.inl (hw _ (List.mem_of_getElem? (i := 10) rfl))) Via.refl e17 P.2.2.2.2.1 (g := (mkF m 8 #[.val (.ref (w 2))] [(.ref (w 2))])) rfl (hb hby d1_8)
  refine Goes.by st18 ?_
  refine Goes.by (fun _ k => Jvm.RoadKit.acmp (g := (mkF m 11 #[.val (.ref (w 2))] [(.ref (w 2)), (.ref (w 2))])) X18 hx rfl rfl rfl (pc0 := 11) (pc' := 14) (same := true) rfl (hb hby d1_11) rfl (decide_eq_true rfl) (by decide) (by decide) (XS.iconst X18.here hx rfl (hb hby d1_14) (XS.goto X18.here hx rfl (pc0 := 15) (pc' := 19) rfl (hb hby d1_15) (by decide) (by decide) k))) ?_
  show Goes p e below (T18.setTop (mkF m 19 #[.val (.ref (w 2))] [(.int (1 : Int32))])) _
  obtain ⟨fs, hr, hrun, hended, hW, hsame⟩ := X18.leave (v := some (.int (1 : Int32))) (fun h => by rw [Bd.returns] at h; cases h)
  exact ⟨_, _, retN X18 hx (t := .boolean) Bd.returns (by simp) (hb hby d1_19) hr, hrun, hended, _, _, rfl, ⟨rfl, N0, e18⟩, ⟨_, rfl⟩, hW, hsame.mono (by decide) (by decide)⟩
set_option maxRecDepth 65536 in
set_option maxHeartbeats 40000000 in
theorem r1_5 (l : Launch) (Z : State) (a0 : Array Value) (hw : ∀ d ∈ tables_1, d.before a0 Z = true) (ws : List Jvm.Cond) (h0 : Heap) (n0 : Nat) (Z0 : n0 ≤ h0.size) (w : Nat → Addr) (P : Pins Z h0 w) :
    MetFree l (⟨"com/example/proxybus/proxybus/settlement/TucFlow", "isTuc", "(Lcom/example/proxybus/proxybus/model/TransactionKind;)Z"⟩ : MethodName) (head1 (Jvm.Cond.code (⟨"com/example/proxybus/proxybus/settlement/TucFlow", "isTuc", "(Lcom/example/proxybus/proxybus/model/TransactionKind;)Z"⟩ : MethodName) prog_59_method_2_code 1 (some .boolean) :: ws) ({ frames := 0, cells := 0, slots := 0, locals := 0 } : Room)) (fun a U => a = #[(.ref (w 5))] ∧ Z.Warmed39 U.vm ∧ U.heap = h0) (fun _ _ _ _ _ => True) (fun _ U o U' => ∃ v L, o = .returned v ∧ QP (some (.int (0 : Int32))) h0 n0 v U'.heap L ∧ FrameEnd U o U' L ({ frames := 0, cells := 0, slots := 0, locals := 0 } : Room).cells ({ frames := 0, cells := 0, slots := 0, locals := 0 } : Room).slots) := by
  refine MetFree.of_bodySF (plainFor_of_name pn0) hisR ?_
  intro p e s m args below meth c s₁ Bd hml0 hP hK
  obtain ⟨rfl, hZ, hh⟩ := hP
  have hx := Bd.exec
  have hby := Bd.bytes
  have hml : c.maxLocals = 1 := hml0
  have hown : s.vm.findClass "com/example/proxybus/proxybus/settlement/TucFlow" = some m.cls := findClass_of_methodNamed Bd.named
  have hnm := (name_of_methodNamed Bd.named Bd.method).1
  have X0 : Stand p l e ({ frames := 0, cells := 0, slots := 0, locals := 0 } : Room) s m #[(.ref (w 5))] below meth c s₁ [] 0 0 := Stand.of_body Bd
  have e0 : s₁.heap = h0 := by rw [← hh, Bd.state]; rfl
  have N0 := Fr.nil n0
  refine Goes.out (Goes.by (fun t k => castTop (ef1_R m ((w 5))) k) ?_)
  show Goes p e below (s₁.setTop (mkF m 0 #[.val (.ref (w 5))] [])) _
  refine Goes.by (fun _ k => XS.aloadN X0.here hx rfl (hb hby d1_0) rfl rfl k) ?_
  obtain ⟨T21, X21, e21, st21⟩ := getS2 X0 hx hZ hown (host := "") (Or.inl (hw _ (List.mem_of_getElem? (i := 8) rfl))) Via.refl e0 P.2.2.1 (g := (mkF m 1 #[.val (.ref (w 5))] [(.ref (w 5))])) rfl (hb hby d1_1)
  refine Goes.by st21 ?_
  refine Goes.by (fun _ k => Jvm.RoadKit.acmp (g := (mkF m 4 #[.val (.ref (w 5))] [(.ref (w 1)), (.ref (w 5))])) X21 hx rfl rfl rfl (pc0 := 4) (pc' := 7) (same := false) rfl (hb hby d1_4) rfl (decide_eq_false fun q => (Ne.symm (own_ne_1_5 P)) (Value.ref.inj q)) (by decide) (by decide) (XS.aloadN X21.here hx rfl (hb hby d1_7) rfl rfl k)) ?_
  obtain ⟨T22, X22, e22, st22⟩ := getS2 X21 hx hZ hown (host := "") (Or.inl (hw _ (List.mem_of_getElem? (i := 10) rfl))) Via.refl e21 P.2.2.2.2.1 (g := (mkF m 8 #[.val (.ref (w 5))] [(.ref (w 5))])) rfl (hb hby d1_8)
  refine Goes.by st22 ?_
  refine Goes.by (fun _ k => Jvm.RoadKit.acmp (g := (mkF m 11 #[.val (.ref (w 5))] [(.ref (w 2)), (.ref (w 5))])) X22 hx rfl rfl rfl (pc0 := 11) (pc' := 18) (same := false) rfl (hb hby d1_11) rfl (decide_eq_false fun q => (Ne.symm (own_ne_2_5 P)) (Value.ref.inj q)) (by decide) (by decide) (XS.iconst X22.here hx rfl (hb hby d1_18) k)) ?_
  show Goes p e below (T22.setTop (mkF m 19 #[.val (.ref (w 5))] [(.int (0 : Int32))])) _
  obtain ⟨fs, hr, hrun, hended, hW, hsame⟩ := X22.leave (v := some (.int (0 : Int32))) (fun h => by rw [Bd.returns] at h; cases h)
  exact ⟨_, _, retN X22 hx (t := .boolean) Bd.returns (by simp) (hb hby d1_19) hr, hrun, hended, _, _, rfl, ⟨rfl, N0, e22⟩, ⟨_, rfl⟩, hW, hsame.mono (by decide) (by decide)⟩
set_option maxRecDepth 65536 in
set_option maxHeartbeats 40000000 in
theorem rm0 (l : Launch) (Z : State) (a0 : Array Value) (hw : ∀ d ∈ tables_1, d.before a0 Z = true) (ws : List Jvm.Cond) (h0 : Heap) (n0 : Nat) (Z0 : n0 ≤ h0.size) (p1 : Int32) (w : Nat → Addr) (P : Pins Z h0 w) :
    MetFree l x (head1 (Jvm.Cond.code x code maxLocals ret :: ws) room_1) (fun a U => a = #[(.int p1)] ∧ Z.Warmed39 U.vm ∧ U.heap = h0) (fun _ _ _ _ _ => True) (fun _ U o U' => ∃ v L, o = .returned v ∧ QL n0 v U'.heap L ∧ FrameEnd U o U' L 0 0) := by
  refine MetFree.of_bodySF (plainFor_of_name pn1) hisR ?_
  intro p e s m args below meth c s₁ Bd hml0 hP hK
  obtain ⟨rfl, hZ, hh⟩ := hP
  have hx := Bd.exec
  have hby := Bd.bytes
  have hml : c.maxLocals = 4 := hml0
  have hown : s.vm.findClass "com/example/proxybus/proxybus/settlement/TucFlowIsTucPinLaw" = some m.cls := findClass_of_methodNamed Bd.named
  have hnm := (name_of_methodNamed Bd.named Bd.method).1
  have X0 : Stand p l e room_1 s m #[(.int p1)] below meth c s₁ [] 0 0 := Stand.of_body Bd
  have e0 : s₁.heap = h0 := by rw [← hh, Bd.state]; rfl
  have N0 := Fr.nil n0
  refine Goes.out (Goes.by (fun t k => castTop (ef0_I m p1) k) ?_)
  show Goes p e below (s₁.setTop (mkF m 0 #[.val (.int p1), .unset, .unset, .unset] [])) _
  refine Goes.by (fun _ k => XS.iloadN X0.here hx rfl (hb hby at_0) rfl (X0.ldcInt hx hown (mvT hZ (hw _ (List.mem_of_getElem? (i := 0) rfl))) (g := (mkF m 1 #[.val (.int p1), .unset, .unset, .unset] [(.int p1)])) rfl (hb hby at_1) _ (XS.iand X0.here hx rfl (hb hby at_3) rfl k))) ?_
  show Goes p e below (s₁.setTop (mkF m 4 #[.val (.int p1), .unset, .unset, .unset] [(.int (p1 &&& (2147483647 : Int32)))])) _
  refine Goes.by (fun _ k => XS.bipush X0.here hx rfl (hb hby at_4) (iremM X0 hx rfl (hb hby at_6) rfl (by decide) (XS.istoreN X0.here hx rfl (hb hby at_7) rfl (l' := #[.val (.int p1), .val (.int ((p1 &&& (2147483647 : Int32)) % (6 : Int32))), .unset, .unset]) rfl k))) ?_
  show Goes p e below (s₁.setTop (mkF m 8 #[.val (.int p1), .val (.int ((p1 &&& (2147483647 : Int32)) % (6 : Int32))), .unset, .unset] [])) _
  have hsi := own_split p1
  obtain ⟨i, hi⟩ : ∃ z, z = ((p1 &&& (2147483647 : Int32)) % (6 : Int32)) := ⟨_, rfl⟩
  rw [← hi] at hsi ⊢
  rcases hsi with rfl | rfl | rfl | rfl | rfl | rfl
  · show Goes p e below (s₁.setTop (mkF m 8 #[.val (.int p1), .val (.int (0 : Int32)), .unset, .unset] [])) _
    refine Goes.by (fun _ k => XS.iloadN X0.here hx rfl (hb hby at_8) rfl (XS.ifNo X0.here hx rfl (hb hby at_9) rfl ((if0 _ _).trans (teq (by decide : (0 : Int32) = (0 : Int32))).2) k)) ?_
    obtain ⟨T1, X1, e1, st1⟩ := getS2 X0 hx hZ hown (host := "") (Or.inl (hw _ (List.mem_of_getElem? (i := 1) rfl))) Via.refl e0 P.1 (g := (mkF m 12 #[.val (.int p1), .val (.int (0 : Int32)), .unset, .unset] [])) rfl (hb hby at_12)
    refine Goes.by st1 ?_
    refine Goes.by (fun _ k => XS.astoreN X1.here hx rfl (hb hby at_15) rfl rfl (l' := #[.val (.int p1), .val (.int (0 : Int32)), .val (.ref (w 0)), .unset]) rfl (XS.iconst X1.here hx rfl (hb hby at_16) (XS.istoreN X1.here hx rfl (hb hby at_17) rfl (l' := #[.val (.int p1), .val (.int (0 : Int32)), .val (.ref (w 0)), .val (.int (0 : Int32))]) rfl k))) ?_
    show Goes p e below (T1.setTop (mkF m 18 #[.val (.int p1), .val (.int (0 : Int32)), .val (.ref (w 0)), .val (.int (0 : Int32))] [])) _
    refine Goes.by (fun _ k => XS.goto X1.here hx rfl (pc0 := 18) (pc' := 83) rfl (hb hby at_18) (by decide) (by decide) (XS.aloadN X1.here hx rfl (hb hby at_83) rfl rfl k)) ?_
    obtain ⟨_, _, ⟨T4, L4, k4, n4⟩, -, X4, ⟨Lc4, hQ4, l4, y4, z4⟩, st4⟩ := Jvm.LawKit.callS X1 hx (y := (⟨"com/example/proxybus/proxybus/settlement/TucFlow", "isTuc", "(Lcom/example/proxybus/proxybus/model/TransactionKind;)Z"⟩ : MethodName)) hown (mvT hZ (hw _ (List.mem_of_getElem? (i := 4) rfl))) (mvT hZ (hw _ (List.mem_of_getElem? (i := 5) rfl))) (mvT hZ (hw _ (List.mem_of_getElem? (i := 6) rfl))) (mvT hZ (hw _ (List.mem_of_getElem? (i := 7) rfl))) (by decide) (backOf (W := 0) (r1_0 l Z a0 hw [] h0 n0 Z0 w P) hZ (hw _ (List.mem_of_getElem? (i := 7) rfl)) (hw _ (List.mem_of_getElem? (i := 6) rfl)) (by decide) (by decide)) (g := (mkF m 84 #[.val (.int p1), .val (.int (0 : Int32)), .val (.ref (w 0)), .val (.int (0 : Int32))] [(.ref (w 0))])) rfl (by rw [hml]; rfl) (argsL := [(.ref (w 0))]) (rest := []) (lenOf pd0 rfl) rfl (by show 2 * 0 + _ ≤ _; exact Nat.le_of_eq rfl) (hb hby at_84) (fun _ _ => ⟨rfl, e1, (by decide : 0 + 0 ≤ _), (by decide : 0 + 0 ≤ _)⟩)
    dsimp only [Pt.U, Pt.locs, Pt.cells, Pt.slots] at X4 l4 y4 z4 st4 hQ4
    subst l4 y4 z4
    obtain ⟨rfl, Nq4, e4⟩ := hQ4
    have N4 := Fr.app N0 Nq4
    refine Goes.by st4 ?_
    refine Goes.by (fun _ k => XS.iloadN X4.here hx rfl (hb hby at_87) rfl (XS.icmpNo X4.here hx rfl (hb hby at_88) rfl (teq (by decide : (0 : Int32) = (0 : Int32))).2 (XS.iconst X4.here hx rfl (hb hby at_91) k))) ?_
    show Goes p e below (T4.setTop (mkF m 92 #[.val (.int p1), .val (.int (0 : Int32)), .val (.ref (w 0)), .val (.int (0 : Int32))] [(.int (1 : Int32))])) _
    refine Goes.by (fun _ k => XS.goto X4.here hx rfl (pc0 := 92) (pc' := 96) rfl (hb hby at_92) (by decide) (by decide) k) ?_
    show Goes p e below (T4.setTop (mkF m 96 #[.val (.int p1), .val (.int (0 : Int32)), .val (.ref (w 0)), .val (.int (0 : Int32))] [(.int (1 : Int32))])) _
    obtain ⟨fs, hr, hrun, hended, hW, hsame⟩ := X4.leave (v := some (.int (1 : Int32))) (fun h => by rw [Bd.returns] at h; cases h)
    exact ⟨_, _, retN X4 hx (t := .boolean) Bd.returns (by simp) (hb hby at_96) hr, hrun, hended, _, _, rfl, ⟨rfl, N4⟩, ⟨_, rfl⟩, hW, hsame.mono (by decide) (by decide)⟩
  · show Goes p e below (s₁.setTop (mkF m 8 #[.val (.int p1), .val (.int (1 : Int32)), .unset, .unset] [])) _
    refine Goes.by (fun _ k => XS.iloadN X0.here hx rfl (hb hby at_8) rfl (XS.ifYes X0.here hx rfl (pc0 := 9) (pc' := 21) rfl (hb hby at_9) rfl ((if0 _ _).trans (feq (by decide : ¬ ((1 : Int32) = (0 : Int32)))).2) (by decide) (by decide) (XS.iloadN X0.here hx rfl (hb hby at_21) rfl k))) ?_
    show Goes p e below (s₁.setTop (mkF m 22 #[.val (.int p1), .val (.int (1 : Int32)), .unset, .unset] [(.int (1 : Int32))])) _
    refine Goes.by (fun _ k => XS.iconst X0.here hx rfl (hb hby at_22) (XS.icmpNo X0.here hx rfl (hb hby at_23) rfl (teq (by decide : (1 : Int32) = (1 : Int32))).2 k)) ?_
    obtain ⟨T5, X5, e5, st5⟩ := getS2 X0 hx hZ hown (host := "") (Or.inl (hw _ (List.mem_of_getElem? (i := 15) rfl))) Via.refl e0 P.2.2.2.2.2.2.2.2.1 (g := (mkF m 26 #[.val (.int p1), .val (.int (1 : Int32)), .unset, .unset] [])) rfl (hb hby at_26)
    refine Goes.by st5 ?_
    refine Goes.by (fun _ k => XS.astoreN X5.here hx rfl (hb hby at_29) rfl rfl (l' := #[.val (.int p1), .val (.int (1 : Int32)), .val (.ref (w 4)), .unset]) rfl (XS.iconst X5.here hx rfl (hb hby at_30) (XS.istoreN X5.here hx rfl (hb hby at_31) rfl (l' := #[.val (.int p1), .val (.int (1 : Int32)), .val (.ref (w 4)), .val (.int (0 : Int32))]) rfl k))) ?_
    show Goes p e below (T5.setTop (mkF m 32 #[.val (.int p1), .val (.int (1 : Int32)), .val (.ref (w 4)), .val (.int (0 : Int32))] [])) _
    refine Goes.by (fun _ k => XS.goto X5.here hx rfl (pc0 := 32) (pc' := 83) rfl (hb hby at_32) (by decide) (by decide) (XS.aloadN X5.here hx rfl (hb hby at_83) rfl rfl k)) ?_
    obtain ⟨_, _, ⟨T8, L8, k8, n8⟩, -, X8, ⟨Lc8, hQ8, l8, y8, z8⟩, st8⟩ := Jvm.LawKit.callS X5 hx (y := (⟨"com/example/proxybus/proxybus/settlement/TucFlow", "isTuc", "(Lcom/example/proxybus/proxybus/model/TransactionKind;)Z"⟩ : MethodName)) hown (mvT hZ (hw _ (List.mem_of_getElem? (i := 4) rfl))) (mvT hZ (hw _ (List.mem_of_getElem? (i := 5) rfl))) (mvT hZ (hw _ (List.mem_of_getElem? (i := 6) rfl))) (mvT hZ (hw _ (List.mem_of_getElem? (i := 7) rfl))) (by decide) (backOf (W := 0) (r1_1 l Z a0 hw [] h0 n0 Z0 w P) hZ (hw _ (List.mem_of_getElem? (i := 7) rfl)) (hw _ (List.mem_of_getElem? (i := 6) rfl)) (by decide) (by decide)) (g := (mkF m 84 #[.val (.int p1), .val (.int (1 : Int32)), .val (.ref (w 4)), .val (.int (0 : Int32))] [(.ref (w 4))])) rfl (by rw [hml]; rfl) (argsL := [(.ref (w 4))]) (rest := []) (lenOf pd0 rfl) rfl (by show 2 * 0 + _ ≤ _; exact Nat.le_of_eq rfl) (hb hby at_84) (fun _ _ => ⟨rfl, e5, (by decide : 0 + 0 ≤ _), (by decide : 0 + 0 ≤ _)⟩)
    dsimp only [Pt.U, Pt.locs, Pt.cells, Pt.slots] at X8 l8 y8 z8 st8 hQ8
    subst l8 y8 z8
    obtain ⟨rfl, Nq8, e8⟩ := hQ8
    have N8 := Fr.app N0 Nq8
    refine Goes.by st8 ?_
    refine Goes.by (fun _ k => XS.iloadN X8.here hx rfl (hb hby at_87) rfl (XS.icmpNo X8.here hx rfl (hb hby at_88) rfl (teq (by decide : (0 : Int32) = (0 : Int32))).2 (XS.iconst X8.here hx rfl (hb hby at_91) k))) ?_
    show Goes p e below (T8.setTop (mkF m 92 #[.val (.int p1), .val (.int (1 : Int32)), .val (.ref (w 4)), .val (.int (0 : Int32))] [(.int (1 : Int32))])) _
    refine Goes.by (fun _ k => XS.goto X8.here hx rfl (pc0 := 92) (pc' := 96) rfl (hb hby at_92) (by decide) (by decide) k) ?_
    show Goes p e below (T8.setTop (mkF m 96 #[.val (.int p1), .val (.int (1 : Int32)), .val (.ref (w 4)), .val (.int (0 : Int32))] [(.int (1 : Int32))])) _
    obtain ⟨fs, hr, hrun, hended, hW, hsame⟩ := X8.leave (v := some (.int (1 : Int32))) (fun h => by rw [Bd.returns] at h; cases h)
    exact ⟨_, _, retN X8 hx (t := .boolean) Bd.returns (by simp) (hb hby at_96) hr, hrun, hended, _, _, rfl, ⟨rfl, N8⟩, ⟨_, rfl⟩, hW, hsame.mono (by decide) (by decide)⟩
  · show Goes p e below (s₁.setTop (mkF m 8 #[.val (.int p1), .val (.int (2 : Int32)), .unset, .unset] [])) _
    refine Goes.by (fun _ k => XS.iloadN X0.here hx rfl (hb hby at_8) rfl (XS.ifYes X0.here hx rfl (pc0 := 9) (pc' := 21) rfl (hb hby at_9) rfl ((if0 _ _).trans (feq (by decide : ¬ ((2 : Int32) = (0 : Int32)))).2) (by decide) (by decide) (XS.iloadN X0.here hx rfl (hb hby at_21) rfl k))) ?_
    show Goes p e below (s₁.setTop (mkF m 22 #[.val (.int p1), .val (.int (2 : Int32)), .unset, .unset] [(.int (2 : Int32))])) _
    refine Goes.by (fun _ k => XS.iconst X0.here hx rfl (hb hby at_22) (XS.icmpYes X0.here hx rfl (pc0 := 23) (pc' := 35) rfl (hb hby at_23) rfl (feq (by decide : ¬ ((2 : Int32) = (1 : Int32)))).2 (by decide) (by decide) (XS.iloadN X0.here hx rfl (hb hby at_35) rfl k))) ?_
    show Goes p e below (s₁.setTop (mkF m 36 #[.val (.int p1), .val (.int (2 : Int32)), .unset, .unset] [(.int (2 : Int32))])) _
    refine Goes.by (fun _ k => XS.iconst X0.here hx rfl (hb hby at_36) (XS.icmpNo X0.here hx rfl (hb hby at_37) rfl (teq (by decide : (2 : Int32) = (2 : Int32))).2 k)) ?_
    obtain ⟨T9, X9, e9, st9⟩ := getS2 X0 hx hZ hown (host := "") (Or.inl (hw _ (List.mem_of_getElem? (i := 14) rfl))) Via.refl e0 P.2.2.1 (g := (mkF m 40 #[.val (.int p1), .val (.int (2 : Int32)), .unset, .unset] [])) rfl (hb hby at_40)
    refine Goes.by st9 ?_
    refine Goes.by (fun _ k => XS.astoreN X9.here hx rfl (hb hby at_43) rfl rfl (l' := #[.val (.int p1), .val (.int (2 : Int32)), .val (.ref (w 1)), .unset]) rfl (XS.iconst X9.here hx rfl (hb hby at_44) (XS.istoreN X9.here hx rfl (hb hby at_45) rfl (l' := #[.val (.int p1), .val (.int (2 : Int32)), .val (.ref (w 1)), .val (.int (1 : Int32))]) rfl k))) ?_
    show Goes p e below (T9.setTop (mkF m 46 #[.val (.int p1), .val (.int (2 : Int32)), .val (.ref (w 1)), .val (.int (1 : Int32))] [])) _
    refine Goes.by (fun _ k => XS.goto X9.here hx rfl (pc0 := 46) (pc' := 83) rfl (hb hby at_46) (by decide) (by decide) (XS.aloadN X9.here hx rfl (hb hby at_83) rfl rfl k)) ?_
    obtain ⟨_, _, ⟨T11, L11, k11, n11⟩, -, X11, ⟨Lc11, hQ11, l11, y11, z11⟩, st11⟩ := Jvm.LawKit.callS X9 hx (y := (⟨"com/example/proxybus/proxybus/settlement/TucFlow", "isTuc", "(Lcom/example/proxybus/proxybus/model/TransactionKind;)Z"⟩ : MethodName)) hown (mvT hZ (hw _ (List.mem_of_getElem? (i := 4) rfl))) (mvT hZ (hw _ (List.mem_of_getElem? (i := 5) rfl))) (mvT hZ (hw _ (List.mem_of_getElem? (i := 6) rfl))) (mvT hZ (hw _ (List.mem_of_getElem? (i := 7) rfl))) (by decide) (backOf (W := 0) (r1_2 l Z a0 hw [] h0 n0 Z0 w P) hZ (hw _ (List.mem_of_getElem? (i := 7) rfl)) (hw _ (List.mem_of_getElem? (i := 6) rfl)) (by decide) (by decide)) (g := (mkF m 84 #[.val (.int p1), .val (.int (2 : Int32)), .val (.ref (w 1)), .val (.int (1 : Int32))] [(.ref (w 1))])) rfl (by rw [hml]; rfl) (argsL := [(.ref (w 1))]) (rest := []) (lenOf pd0 rfl) rfl (by show 2 * 0 + _ ≤ _; exact Nat.le_of_eq rfl) (hb hby at_84) (fun _ _ => ⟨rfl, e9, (by decide : 0 + 0 ≤ _), (by decide : 0 + 0 ≤ _)⟩)
    dsimp only [Pt.U, Pt.locs, Pt.cells, Pt.slots] at X11 l11 y11 z11 st11 hQ11
    subst l11 y11 z11
    obtain ⟨rfl, Nq11, e11⟩ := hQ11
    have N11 := Fr.app N0 Nq11
    refine Goes.by st11 ?_
    refine Goes.by (fun _ k => XS.iloadN X11.here hx rfl (hb hby at_87) rfl (XS.icmpNo X11.here hx rfl (hb hby at_88) rfl (teq (by decide : (1 : Int32) = (1 : Int32))).2 (XS.iconst X11.here hx rfl (hb hby at_91) k))) ?_
    show Goes p e below (T11.setTop (mkF m 92 #[.val (.int p1), .val (.int (2 : Int32)), .val (.ref (w 1)), .val (.int (1 : Int32))] [(.int (1 : Int32))])) _
    refine Goes.by (fun _ k => XS.goto X11.here hx rfl (pc0 := 92) (pc' := 96) rfl (hb hby at_92) (by decide) (by decide) k) ?_
    show Goes p e below (T11.setTop (mkF m 96 #[.val (.int p1), .val (.int (2 : Int32)), .val (.ref (w 1)), .val (.int (1 : Int32))] [(.int (1 : Int32))])) _
    obtain ⟨fs, hr, hrun, hended, hW, hsame⟩ := X11.leave (v := some (.int (1 : Int32))) (fun h => by rw [Bd.returns] at h; cases h)
    exact ⟨_, _, retN X11 hx (t := .boolean) Bd.returns (by simp) (hb hby at_96) hr, hrun, hended, _, _, rfl, ⟨rfl, N11⟩, ⟨_, rfl⟩, hW, hsame.mono (by decide) (by decide)⟩
  · show Goes p e below (s₁.setTop (mkF m 8 #[.val (.int p1), .val (.int (3 : Int32)), .unset, .unset] [])) _
    refine Goes.by (fun _ k => XS.iloadN X0.here hx rfl (hb hby at_8) rfl (XS.ifYes X0.here hx rfl (pc0 := 9) (pc' := 21) rfl (hb hby at_9) rfl ((if0 _ _).trans (feq (by decide : ¬ ((3 : Int32) = (0 : Int32)))).2) (by decide) (by decide) (XS.iloadN X0.here hx rfl (hb hby at_21) rfl k))) ?_
    show Goes p e below (s₁.setTop (mkF m 22 #[.val (.int p1), .val (.int (3 : Int32)), .unset, .unset] [(.int (3 : Int32))])) _
    refine Goes.by (fun _ k => XS.iconst X0.here hx rfl (hb hby at_22) (XS.icmpYes X0.here hx rfl (pc0 := 23) (pc' := 35) rfl (hb hby at_23) rfl (feq (by decide : ¬ ((3 : Int32) = (1 : Int32)))).2 (by decide) (by decide) (XS.iloadN X0.here hx rfl (hb hby at_35) rfl k))) ?_
    show Goes p e below (s₁.setTop (mkF m 36 #[.val (.int p1), .val (.int (3 : Int32)), .unset, .unset] [(.int (3 : Int32))])) _
    refine Goes.by (fun _ k => XS.iconst X0.here hx rfl (hb hby at_36) (XS.icmpYes X0.here hx rfl (pc0 := 37) (pc' := 49) rfl (hb hby at_37) rfl (feq (by decide : ¬ ((3 : Int32) = (2 : Int32)))).2 (by decide) (by decide) (XS.iloadN X0.here hx rfl (hb hby at_49) rfl k))) ?_
    show Goes p e below (s₁.setTop (mkF m 50 #[.val (.int p1), .val (.int (3 : Int32)), .unset, .unset] [(.int (3 : Int32))])) _
    refine Goes.by (fun _ k => XS.iconst X0.here hx rfl (hb hby at_50) (XS.icmpNo X0.here hx rfl (hb hby at_51) rfl (teq (by decide : (3 : Int32) = (3 : Int32))).2 k)) ?_
    obtain ⟨T12, X12, e12, st12⟩ := getS2 X0 hx hZ hown (host := "") (Or.inl (hw _ (List.mem_of_getElem? (i := 12) rfl))) Via.refl e0 P.2.2.2.2.2.2.1 (g := (mkF m 54 #[.val (.int p1), .val (.int (3 : Int32)), .unset, .unset] [])) rfl (hb hby at_54)
    refine Goes.by st12 ?_
    refine Goes.by (fun _ k => XS.astoreN X12.here hx rfl (hb hby at_57) rfl rfl (l' := #[.val (.int p1), .val (.int (3 : Int32)), .val (.ref (w 3)), .unset]) rfl (XS.iconst X12.here hx rfl (hb hby at_58) (XS.istoreN X12.here hx rfl (hb hby at_59) rfl (l' := #[.val (.int p1), .val (.int (3 : Int32)), .val (.ref (w 3)), .val (.int (0 : Int32))]) rfl k))) ?_
    show Goes p e below (T12.setTop (mkF m 60 #[.val (.int p1), .val (.int (3 : Int32)), .val (.ref (w 3)), .val (.int (0 : Int32))] [])) _
    refine Goes.by (fun _ k => XS.goto X12.here hx rfl (pc0 := 60) (pc' := 83) rfl (hb hby at_60) (by decide) (by decide) (XS.aloadN X12.here hx rfl (hb hby at_83) rfl rfl k)) ?_
    obtain ⟨_, _, ⟨T15, L15, k15, n15⟩, -, X15, ⟨Lc15, hQ15, l15, y15, z15⟩, st15⟩ := Jvm.LawKit.callS X12 hx (y := (⟨"com/example/proxybus/proxybus/settlement/TucFlow", "isTuc", "(Lcom/example/proxybus/proxybus/model/TransactionKind;)Z"⟩ : MethodName)) hown (mvT hZ (hw _ (List.mem_of_getElem? (i := 4) rfl))) (mvT hZ (hw _ (List.mem_of_getElem? (i := 5) rfl))) (mvT hZ (hw _ (List.mem_of_getElem? (i := 6) rfl))) (mvT hZ (hw _ (List.mem_of_getElem? (i := 7) rfl))) (by decide) (backOf (W := 0) (r1_3 l Z a0 hw [] h0 n0 Z0 w P) hZ (hw _ (List.mem_of_getElem? (i := 7) rfl)) (hw _ (List.mem_of_getElem? (i := 6) rfl)) (by decide) (by decide)) (g := (mkF m 84 #[.val (.int p1), .val (.int (3 : Int32)), .val (.ref (w 3)), .val (.int (0 : Int32))] [(.ref (w 3))])) rfl (by rw [hml]; rfl) (argsL := [(.ref (w 3))]) (rest := []) (lenOf pd0 rfl) rfl (by show 2 * 0 + _ ≤ _; exact Nat.le_of_eq rfl) (hb hby at_84) (fun _ _ => ⟨rfl, e12, (by decide : 0 + 0 ≤ _), (by decide : 0 + 0 ≤ _)⟩)
    dsimp only [Pt.U, Pt.locs, Pt.cells, Pt.slots] at X15 l15 y15 z15 st15 hQ15
    subst l15 y15 z15
    obtain ⟨rfl, Nq15, e15⟩ := hQ15
    have N15 := Fr.app N0 Nq15
    refine Goes.by st15 ?_
    refine Goes.by (fun _ k => XS.iloadN X15.here hx rfl (hb hby at_87) rfl (XS.icmpNo X15.here hx rfl (hb hby at_88) rfl (teq (by decide : (0 : Int32) = (0 : Int32))).2 (XS.iconst X15.here hx rfl (hb hby at_91) k))) ?_
    show Goes p e below (T15.setTop (mkF m 92 #[.val (.int p1), .val (.int (3 : Int32)), .val (.ref (w 3)), .val (.int (0 : Int32))] [(.int (1 : Int32))])) _
    refine Goes.by (fun _ k => XS.goto X15.here hx rfl (pc0 := 92) (pc' := 96) rfl (hb hby at_92) (by decide) (by decide) k) ?_
    show Goes p e below (T15.setTop (mkF m 96 #[.val (.int p1), .val (.int (3 : Int32)), .val (.ref (w 3)), .val (.int (0 : Int32))] [(.int (1 : Int32))])) _
    obtain ⟨fs, hr, hrun, hended, hW, hsame⟩ := X15.leave (v := some (.int (1 : Int32))) (fun h => by rw [Bd.returns] at h; cases h)
    exact ⟨_, _, retN X15 hx (t := .boolean) Bd.returns (by simp) (hb hby at_96) hr, hrun, hended, _, _, rfl, ⟨rfl, N15⟩, ⟨_, rfl⟩, hW, hsame.mono (by decide) (by decide)⟩
  · show Goes p e below (s₁.setTop (mkF m 8 #[.val (.int p1), .val (.int (4 : Int32)), .unset, .unset] [])) _
    refine Goes.by (fun _ k => XS.iloadN X0.here hx rfl (hb hby at_8) rfl (XS.ifYes X0.here hx rfl (pc0 := 9) (pc' := 21) rfl (hb hby at_9) rfl ((if0 _ _).trans (feq (by decide : ¬ ((4 : Int32) = (0 : Int32)))).2) (by decide) (by decide) (XS.iloadN X0.here hx rfl (hb hby at_21) rfl k))) ?_
    show Goes p e below (s₁.setTop (mkF m 22 #[.val (.int p1), .val (.int (4 : Int32)), .unset, .unset] [(.int (4 : Int32))])) _
    refine Goes.by (fun _ k => XS.iconst X0.here hx rfl (hb hby at_22) (XS.icmpYes X0.here hx rfl (pc0 := 23) (pc' := 35) rfl (hb hby at_23) rfl (feq (by decide : ¬ ((4 : Int32) = (1 : Int32)))).2 (by decide) (by decide) (XS.iloadN X0.here hx rfl (hb hby at_35) rfl k))) ?_
    show Goes p e below (s₁.setTop (mkF m 36 #[.val (.int p1), .val (.int (4 : Int32)), .unset, .unset] [(.int (4 : Int32))])) _
    refine Goes.by (fun _ k => XS.iconst X0.here hx rfl (hb hby at_36) (XS.icmpYes X0.here hx rfl (pc0 := 37) (pc' := 49) rfl (hb hby at_37) rfl (feq (by decide : ¬ ((4 : Int32) = (2 : Int32)))).2 (by decide) (by decide) (XS.iloadN X0.here hx rfl (hb hby at_49) rfl k))) ?_
    show Goes p e below (s₁.setTop (mkF m 50 #[.val (.int p1), .val (.int (4 : Int32)), .unset, .unset] [(.int (4 : Int32))])) _
    refine Goes.by (fun _ k => XS.iconst X0.here hx rfl (hb hby at_50) (XS.icmpYes X0.here hx rfl (pc0 := 51) (pc' := 63) rfl (hb hby at_51) rfl (feq (by decide : ¬ ((4 : Int32) = (3 : Int32)))).2 (by decide) (by decide) (XS.iloadN X0.here hx rfl (hb hby at_63) rfl k))) ?_
    show Goes p e below (s₁.setTop (mkF m 64 #[.val (.int p1), .val (.int (4 : Int32)), .unset, .unset] [(.int (4 : Int32))])) _
    refine Goes.by (fun _ k => XS.iconst X0.here hx rfl (hb hby at_64) (XS.icmpNo X0.here hx rfl (hb hby at_65) rfl (teq (by decide : (4 : Int32) = (4 : Int32))).2 k)) ?_
    obtain ⟨T16, X16, e16, st16⟩ := getS2 X0 hx hZ hown (host := "") (Or.inl (hw _ (List.mem_of_getElem? (i := 19) rfl))) Via.refl e0 P.2.2.2.2.1 (g := (mkF m 68 #[.val (.int p1), .val (.int (4 : Int32)), .unset, .unset] [])) rfl (hb hby at_68)
    refine Goes.by st16 ?_
    refine Goes.by (fun _ k => XS.astoreN X16.here hx rfl (hb hby at_71) rfl rfl (l' := #[.val (.int p1), .val (.int (4 : Int32)), .val (.ref (w 2)), .unset]) rfl (XS.iconst X16.here hx rfl (hb hby at_72) (XS.istoreN X16.here hx rfl (hb hby at_73) rfl (l' := #[.val (.int p1), .val (.int (4 : Int32)), .val (.ref (w 2)), .val (.int (1 : Int32))]) rfl k))) ?_
    show Goes p e below (T16.setTop (mkF m 74 #[.val (.int p1), .val (.int (4 : Int32)), .val (.ref (w 2)), .val (.int (1 : Int32))] [])) _
    refine Goes.by (fun _ k => XS.goto X16.here hx rfl (pc0 := 74) (pc' := 83) rfl (hb hby at_74) (by decide) (by decide) (XS.aloadN X16.here hx rfl (hb hby at_83) rfl rfl k)) ?_
    obtain ⟨_, _, ⟨T19, L19, k19, n19⟩, -, X19, ⟨Lc19, hQ19, l19, y19, z19⟩, st19⟩ := Jvm.LawKit.callS X16 hx (y := (⟨"com/example/proxybus/proxybus/settlement/TucFlow", "isTuc", "(Lcom/example/proxybus/proxybus/model/TransactionKind;)Z"⟩ : MethodName)) hown (mvT hZ (hw _ (List.mem_of_getElem? (i := 4) rfl))) (mvT hZ (hw _ (List.mem_of_getElem? (i := 5) rfl))) (mvT hZ (hw _ (List.mem_of_getElem? (i := 6) rfl))) (mvT hZ (hw _ (List.mem_of_getElem? (i := 7) rfl))) (by decide) (backOf (W := 0) (r1_4 l Z a0 hw [] h0 n0 Z0 w P) hZ (hw _ (List.mem_of_getElem? (i := 7) rfl)) (hw _ (List.mem_of_getElem? (i := 6) rfl)) (by decide) (by decide)) (g := (mkF m 84 #[.val (.int p1), .val (.int (4 : Int32)), .val (.ref (w 2)), .val (.int (1 : Int32))] [(.ref (w 2))])) rfl (by rw [hml]; rfl) (argsL := [(.ref (w 2))]) (rest := []) (lenOf pd0 rfl) rfl (by show 2 * 0 + _ ≤ _; exact Nat.le_of_eq rfl) (hb hby at_84) (fun _ _ => ⟨rfl, e16, (by decide : 0 + 0 ≤ _), (by decide : 0 + 0 ≤ _)⟩)
    dsimp only [Pt.U, Pt.locs, Pt.cells, Pt.slots] at X19 l19 y19 z19 st19 hQ19
    subst l19 y19 z19
    obtain ⟨rfl, Nq19, e19⟩ := hQ19
    have N19 := Fr.app N0 Nq19
    refine Goes.by st19 ?_
    refine Goes.by (fun _ k => XS.iloadN X19.here hx rfl (hb hby at_87) rfl (XS.icmpNo X19.here hx rfl (hb hby at_88) rfl (teq (by decide : (1 : Int32) = (1 : Int32))).2 (XS.iconst X19.here hx rfl (hb hby at_91) k))) ?_
    show Goes p e below (T19.setTop (mkF m 92 #[.val (.int p1), .val (.int (4 : Int32)), .val (.ref (w 2)), .val (.int (1 : Int32))] [(.int (1 : Int32))])) _
    refine Goes.by (fun _ k => XS.goto X19.here hx rfl (pc0 := 92) (pc' := 96) rfl (hb hby at_92) (by decide) (by decide) k) ?_
    show Goes p e below (T19.setTop (mkF m 96 #[.val (.int p1), .val (.int (4 : Int32)), .val (.ref (w 2)), .val (.int (1 : Int32))] [(.int (1 : Int32))])) _
    obtain ⟨fs, hr, hrun, hended, hW, hsame⟩ := X19.leave (v := some (.int (1 : Int32))) (fun h => by rw [Bd.returns] at h; cases h)
    exact ⟨_, _, retN X19 hx (t := .boolean) Bd.returns (by simp) (hb hby at_96) hr, hrun, hended, _, _, rfl, ⟨rfl, N19⟩, ⟨_, rfl⟩, hW, hsame.mono (by decide) (by decide)⟩
  · show Goes p e below (s₁.setTop (mkF m 8 #[.val (.int p1), .val (.int (5 : Int32)), .unset, .unset] [])) _
    refine Goes.by (fun _ k => XS.iloadN X0.here hx rfl (hb hby at_8) rfl (XS.ifYes X0.here hx rfl (pc0 := 9) (pc' := 21) rfl (hb hby at_9) rfl ((if0 _ _).trans (feq (by decide : ¬ ((5 : Int32) = (0 : Int32)))).2) (by decide) (by decide) (XS.iloadN X0.here hx rfl (hb hby at_21) rfl k))) ?_
    show Goes p e below (s₁.setTop (mkF m 22 #[.val (.int p1), .val (.int (5 : Int32)), .unset, .unset] [(.int (5 : Int32))])) _
    refine Goes.by (fun _ k => XS.iconst X0.here hx rfl (hb hby at_22) (XS.icmpYes X0.here hx rfl (pc0 := 23) (pc' := 35) rfl (hb hby at_23) rfl (feq (by decide : ¬ ((5 : Int32) = (1 : Int32)))).2 (by decide) (by decide) (XS.iloadN X0.here hx rfl (hb hby at_35) rfl k))) ?_
    show Goes p e below (s₁.setTop (mkF m 36 #[.val (.int p1), .val (.int (5 : Int32)), .unset, .unset] [(.int (5 : Int32))])) _
    refine Goes.by (fun _ k => XS.iconst X0.here hx rfl (hb hby at_36) (XS.icmpYes X0.here hx rfl (pc0 := 37) (pc' := 49) rfl (hb hby at_37) rfl (feq (by decide : ¬ ((5 : Int32) = (2 : Int32)))).2 (by decide) (by decide) (XS.iloadN X0.here hx rfl (hb hby at_49) rfl k))) ?_
    show Goes p e below (s₁.setTop (mkF m 50 #[.val (.int p1), .val (.int (5 : Int32)), .unset, .unset] [(.int (5 : Int32))])) _
    refine Goes.by (fun _ k => XS.iconst X0.here hx rfl (hb hby at_50) (XS.icmpYes X0.here hx rfl (pc0 := 51) (pc' := 63) rfl (hb hby at_51) rfl (feq (by decide : ¬ ((5 : Int32) = (3 : Int32)))).2 (by decide) (by decide) (XS.iloadN X0.here hx rfl (hb hby at_63) rfl k))) ?_
    show Goes p e below (s₁.setTop (mkF m 64 #[.val (.int p1), .val (.int (5 : Int32)), .unset, .unset] [(.int (5 : Int32))])) _
    refine Goes.by (fun _ k => XS.iconst X0.here hx rfl (hb hby at_64) (XS.icmpYes X0.here hx rfl (pc0 := 65) (pc' := 77) rfl (hb hby at_65) rfl (feq (by decide : ¬ ((5 : Int32) = (4 : Int32)))).2 (by decide) (by decide) k)) ?_
    obtain ⟨T20, X20, e20, st20⟩ := getS2 X0 hx hZ hown (host := "") (Or.inl (hw _ (List.mem_of_getElem? (i := 17) rfl))) Via.refl e0 P.2.2.2.2.2.2.2.2.2.2.1 (g := (mkF m 77 #[.val (.int p1), .val (.int (5 : Int32)), .unset, .unset] [])) rfl (hb hby at_77)
    refine Goes.by st20 ?_
    refine Goes.by (fun _ k => XS.astoreN X20.here hx rfl (hb hby at_80) rfl rfl (l' := #[.val (.int p1), .val (.int (5 : Int32)), .val (.ref (w 5)), .unset]) rfl (XS.iconst X20.here hx rfl (hb hby at_81) (XS.istoreN X20.here hx rfl (hb hby at_82) rfl (l' := #[.val (.int p1), .val (.int (5 : Int32)), .val (.ref (w 5)), .val (.int (0 : Int32))]) rfl k))) ?_
    show Goes p e below (T20.setTop (mkF m 83 #[.val (.int p1), .val (.int (5 : Int32)), .val (.ref (w 5)), .val (.int (0 : Int32))] [])) _
    refine Goes.by (fun _ k => XS.aloadN X20.here hx rfl (hb hby at_83) rfl rfl k) ?_
    obtain ⟨_, _, ⟨T23, L23, k23, n23⟩, -, X23, ⟨Lc23, hQ23, l23, y23, z23⟩, st23⟩ := Jvm.LawKit.callS X20 hx (y := (⟨"com/example/proxybus/proxybus/settlement/TucFlow", "isTuc", "(Lcom/example/proxybus/proxybus/model/TransactionKind;)Z"⟩ : MethodName)) hown (mvT hZ (hw _ (List.mem_of_getElem? (i := 4) rfl))) (mvT hZ (hw _ (List.mem_of_getElem? (i := 5) rfl))) (mvT hZ (hw _ (List.mem_of_getElem? (i := 6) rfl))) (mvT hZ (hw _ (List.mem_of_getElem? (i := 7) rfl))) (by decide) (backOf (W := 0) (r1_5 l Z a0 hw [] h0 n0 Z0 w P) hZ (hw _ (List.mem_of_getElem? (i := 7) rfl)) (hw _ (List.mem_of_getElem? (i := 6) rfl)) (by decide) (by decide)) (g := (mkF m 84 #[.val (.int p1), .val (.int (5 : Int32)), .val (.ref (w 5)), .val (.int (0 : Int32))] [(.ref (w 5))])) rfl (by rw [hml]; rfl) (argsL := [(.ref (w 5))]) (rest := []) (lenOf pd0 rfl) rfl (by show 2 * 0 + _ ≤ _; exact Nat.le_of_eq rfl) (hb hby at_84) (fun _ _ => ⟨rfl, e20, (by decide : 0 + 0 ≤ _), (by decide : 0 + 0 ≤ _)⟩)
    dsimp only [Pt.U, Pt.locs, Pt.cells, Pt.slots] at X23 l23 y23 z23 st23 hQ23
    subst l23 y23 z23
    obtain ⟨rfl, Nq23, e23⟩ := hQ23
    have N23 := Fr.app N0 Nq23
    refine Goes.by st23 ?_
    refine Goes.by (fun _ k => XS.iloadN X23.here hx rfl (hb hby at_87) rfl (XS.icmpNo X23.here hx rfl (hb hby at_88) rfl (teq (by decide : (0 : Int32) = (0 : Int32))).2 (XS.iconst X23.here hx rfl (hb hby at_91) k))) ?_
    show Goes p e below (T23.setTop (mkF m 92 #[.val (.int p1), .val (.int (5 : Int32)), .val (.ref (w 5)), .val (.int (0 : Int32))] [(.int (1 : Int32))])) _
    refine Goes.by (fun _ k => XS.goto X23.here hx rfl (pc0 := 92) (pc' := 96) rfl (hb hby at_92) (by decide) (by decide) k) ?_
    show Goes p e below (T23.setTop (mkF m 96 #[.val (.int p1), .val (.int (5 : Int32)), .val (.ref (w 5)), .val (.int (0 : Int32))] [(.int (1 : Int32))])) _
    obtain ⟨fs, hr, hrun, hended, hW, hsame⟩ := X23.leave (v := some (.int (1 : Int32))) (fun h => by rw [Bd.returns] at h; cases h)
    exact ⟨_, _, retN X23 hx (t := .boolean) Bd.returns (by simp) (hb hby at_96) hr, hrun, hended, _, _, rfl, ⟨rfl, N23⟩, ⟨_, rfl⟩, hW, hsame.mono (by decide) (by decide)⟩
set_option maxRecDepth 65536 in
set_option maxHeartbeats 40000000 in
theorem comes_1 {Post : Tables → Env → Array Value → State → Outcome → State → Prop} (hpost : ∀ tb e args s v u, (limb_1_1.after args s (.returned v) u = true ∧ limb_1_2.after args s (.returned v) u = true ∧ True) → FrameEnd s (.returned v) u (Jvm.fieldLocs frame_1_writes args s ++ Jvm.arrayLocs frame_1_arrays args s ++ Jvm.staticLocs frame_1_statics s) 0 0 → Post tb e args s (.returned v) u) :
    ArmFor flags0 classFile x code maxLocals ret World_1 tables_1 room_1 Calls_1 rest_1 Pre_1 Post := by
  intro l hfl _ _ p e ha hc hk s m args below hf hA hF happ hP
  obtain ⟨hcalls, hrest, hpre⟩ := hP
  obtain ⟨-, -, -, hnamed, -, -, -, hat⟩ := (Spec.applies_iff hf).mp happ
  obtain ⟨hg, hn⟩ := and_e (Cond.before_iff.mp (show (Jvm.Cond.and given_1 narrow_1).before args s = true from hpre))
  obtain ⟨a1, b1⟩ := and_e hg
  obtain ⟨w0, rfl⟩ : ∃ w0 : Value, args = #[w0] := by
    have hs : args.size = 1 := by simpa [Cond.value, given_1] using a1
    obtain ⟨L⟩ := args
    match L, hs with
    | [w0], _ => exact ⟨w0, rfl⟩
  have hw := fun d (hd : d ∈ tables_1) => atoms_spec (ws := Jvm.Cond.code x code maxLocals ret :: tables_1) hat d (List.mem_cons_of_mem _ hd)
  obtain ⟨i0, ei0⟩ := is_v b1
  obtain rfl : w0 = (.int i0) := Option.some.inj ei0
  obtain ⟨q0, t0⟩ := and_e hn
  obtain ⟨q1, t1⟩ := and_e t0
  obtain ⟨q2, t2⟩ := and_e t1
  obtain ⟨q3, t3⟩ := and_e t2
  obtain ⟨q4, t4⟩ := and_e t3
  obtain ⟨q5, t5⟩ := and_e t4
  obtain ⟨q6, t6⟩ := and_e t5
  obtain ⟨q7, t7⟩ := and_e t6
  obtain ⟨q8, t8⟩ := and_e t7
  obtain ⟨q9, t9⟩ := and_e t8
  obtain ⟨q10, t10⟩ := and_e t9
  have q11 := t10
  obtain ⟨v0, ev0⟩ := exa_v q0
  have S0 := Sta.start ev0 (Or.inr ⟨(hw _ (List.mem_of_getElem? (i := 2) rfl)), (hw _ (List.mem_of_getElem? (i := 3) rfl))⟩)
  have E0 := Exa.start ev0 q0
  obtain ⟨v1, ev1⟩ := exa_v q1
  have S1 := Sta.start ev1 (Or.inr ⟨(hw _ (List.mem_of_getElem? (i := 2) rfl)), (hw _ (List.mem_of_getElem? (i := 9) rfl))⟩)
  have E1 := Exa.start ev1 q1
  obtain ⟨v2, ev2⟩ := exa_v q4
  have S2 := Sta.start ev2 (Or.inr ⟨(hw _ (List.mem_of_getElem? (i := 2) rfl)), (hw _ (List.mem_of_getElem? (i := 11) rfl))⟩)
  have E2 := Exa.start ev2 q4
  obtain ⟨v3, ev3⟩ := exa_v q6
  have S3 := Sta.start ev3 (Or.inr ⟨(hw _ (List.mem_of_getElem? (i := 2) rfl)), (hw _ (List.mem_of_getElem? (i := 13) rfl))⟩)
  have E3 := Exa.start ev3 q6
  obtain ⟨v4, ev4⟩ := exa_v q8
  have S4 := Sta.start ev4 (Or.inr ⟨(hw _ (List.mem_of_getElem? (i := 2) rfl)), (hw _ (List.mem_of_getElem? (i := 16) rfl))⟩)
  have E4 := Exa.start ev4 q8
  obtain ⟨v5, ev5⟩ := exa_v q10
  have S5 := Sta.start ev5 (Or.inr ⟨(hw _ (List.mem_of_getElem? (i := 2) rfl)), (hw _ (List.mem_of_getElem? (i := 18) rfl))⟩)
  have E5 := Exa.start ev5 q10
  have F2 := own_fldI ev0 q2
  have F3 := own_fldI ev1 q3
  have F5 := own_fldI ev2 q5
  have F7 := own_fldI ev3 q7
  have F9 := own_fldI ev4 q9
  have F11 := own_fldI ev5 q11
  have P : Pins s s.heap (fun i => [v0, v1, v2, v3, v4, v5].getD i 0) := ⟨S0, E0, S1, E1, S2, E2, S3, E3, S4, E4, S5, E5, F2, F3, F5, F7, F9, F11⟩
  obtain ⟨n, o, h1, h2, h3, _, L, rfl, ⟨rfl, N⟩, hq⟩ := rm0 l s _ hw tables_1 s.heap s.heap.size (Nat.le_refl _) i0 (fun i => [v0, v1, v2, v3, v4, v5].getD i 0) P p e ha hc hk s m _ below hf ((Spec.applies_iff_loose hf).mp happ).1 ⟨rfl, State.Warmed39.refl s, rfl⟩ trivial
  refine ⟨n, _, h1, h2, h3, hpost _ _ _ _ _ _ ⟨Cond.after_iff.mpr rfl, Cond.after_iff.mpr (eq_i res_at (Term.int_eval (1)) rfl), trivial⟩ ⟨hq.1, hq.2.1, (hq.2.2.sift fun y hy => Or.inr (N y hy)).mono (by decide) (by decide)⟩⟩
theorem main_1_1 : Claimed_1_1 := comes_1 fun _ _ _ _ _ _ h hF => ⟨h.1, hF⟩
theorem main_1_2 : Claimed_1_2 := comes_1 fun _ _ _ _ _ _ h hF => ⟨h.2.1, hF⟩
end Jvm.Pilot.@@N@@
namespace Jvm.Pilot.@@N@@
open Jvm Jvm.ClassFile Sem Op Lib Jvm.Free Jvm.Stand Jvm.Pilot.@@N@@.Jvm.D
/-! MADE BY PROGRAM (witnessworld.py) out of the Statement's table words and the real class files: 13 classes; the members and pool entries that the words name. The judged class is class 1, her method 1. -/
namespace start1
open Jvm.ClassFile
def u (s : String) : CpInfo := .utf8 (stringToUtf16 s)
/-- a pool by its gaps: so many unusable entries, then the entry; so many at the end -/
def gap : Nat → List CpInfo → List CpInfo
  | 0, r => r
  | n + 1, r => .unusable :: gap n r
def poolList (es : List (Nat × CpInfo)) (last : Nat) : List CpInfo := es.foldr (fun e r => gap e.1 (e.2 :: r)) (gap last [])
def pool (es : List (Nat × CpInfo)) (last : Nat) : Array CpInfo := ⟨poolList es last⟩
def fileOf (pool : Array CpInfo) (this : Nat) (attrs : Array Attribute := #[]) (ms : Array MethodInfo := #[]) (fl : Nat := 33) (sup : Nat := 0) (ifs : Array Nat := #[]) (fds : Array FieldInfo := #[]) : ClassFile where
  minorVersion := 0
  majorVersion := 65
  constantPool := pool
  accessFlags := fl
  thisClass := this
  superClass := sup
  interfaces := ifs
  fields := fds
  methods := ms
  attributes := attrs
def plain (name : String) (sup : Option ClassId) : Class where
  name := name
  kind := .ordinary
  loader := none
  accessFlags := 33
  super := sup
  interfaces := #[]
  cf := none
  fields := #[]
  methods := #[]
  instanceTypes := #[]
  staticTypes := #[]
  resolved := #[]
  callSites := []
  init := .initialized
  statics := none
  mirror := none

def pool0 : Array CpInfo := pool [(5, u "<init>"), (0, u "()V"), (1, .class_ 10), (1, u "java/lang/Object")] 113

def k0m0 : Method := { name := "<init>", desc := "()V", sig := { parameters := [], returnType := none }, accessFlags := 1, code := none }
/-- java/lang/Object -/
def k0 : Class := { plain "java/lang/Object" none with
  accessFlags := 33
  interfaces := #[]
  cf := some (fileOf pool0 8 #[] #[{ accessFlags := 1, nameIndex := 5, descriptorIndex := 6, attributes := #[] }] 33 0 #[] #[])
  fields := #[]
  methods := #[k0m0]
  instanceTypes := #[]
  staticTypes := #[]
  resolved := Array.replicate 124 none
  statics := none }

def pool1 : Array CpInfo := pool [(2, .class_ 4), (1, u "java/lang/Object"), (0, u "<init>"), (0, u "()V"), (0, .integer 2147483647), (0, .fieldref 9 10), (0, .class_ 11), (0, .nameAndType 12 13), (0, u "com/example/proxybus/proxybus/model/TransactionKind"), (0, u "LBMP_IMPORT"), (0, u "Lcom/example/proxybus/proxybus/model/TransactionKind;"), (0, .fieldref 9 15), (0, .nameAndType 16 13), (0, u "LBMP_EXPORT"), (0, .fieldref 9 18), (0, .nameAndType 19 13), (0, u "IMPORT"), (0, .fieldref 9 21), (0, .nameAndType 22 13), (0, u "EXPORT"), (0, .fieldref 9 24), (0, .nameAndType 25 13), (0, u "WHEEL"), (0, .fieldref 9 27), (0, .nameAndType 28 13), (0, u "INTERNAL"), (0, .methodref 30 31), (0, .class_ 32), (0, .nameAndType 33 34), (0, u "com/example/proxybus/proxybus/settlement/TucFlow"), (0, u "isTuc"), (0, u "(Lcom/example/proxybus/proxybus/model/TransactionKind;)Z"), (0, .class_ 36), (0, u "com/example/proxybus/proxybus/settlement/TucFlowIsTucPinLaw"), (2, u "law"), (0, u "(I)Z")] 3

def k1m0 : Method := { name := "<init>", desc := "()V", sig := { parameters := [], returnType := none }, accessFlags := 2, code := none }
def k1c1 : Code := { maxStack := 2, maxLocals := 4, code := code, exceptionTable := #[], attributes := #[] }
def k1m1 : Method := { name := "law", desc := "(I)Z", sig := { parameters := [.int], returnType := some .boolean }, accessFlags := 9, code := some k1c1 }
/-- com/example/proxybus/proxybus/settlement/TucFlowIsTucPinLaw -/
def k1 : Class := { plain "com/example/proxybus/proxybus/settlement/TucFlowIsTucPinLaw" (some 0) with
  accessFlags := 49
  interfaces := #[]
  cf := some (fileOf pool1 35 #[] #[{ accessFlags := 2, nameIndex := 5, descriptorIndex := 6, attributes := #[] }, { accessFlags := 9, nameIndex := 39, descriptorIndex := 40, attributes := #[] }] 49 2 #[] #[])
  fields := #[]
  methods := #[k1m0, k1m1]
  instanceTypes := #[]
  staticTypes := #[]
  resolved := Array.replicate 44 none
  statics := none }

def pool2 : Array CpInfo := pool [(1, .class_ 2), (0, u "java/lang/constant/Constable"), (0, .class_ 4), (0, u "java/lang/Object")] 6

/-- java/lang/constant/Constable -/
def k2 : Class := { plain "java/lang/constant/Constable" (some 0) with
  accessFlags := 1537
  interfaces := #[]
  cf := some (fileOf pool2 1 #[] #[] 1537 3 #[] #[])
  fields := #[]
  methods := #[]
  instanceTypes := #[]
  staticTypes := #[]
  resolved := Array.replicate 11 none
  statics := none }

def pool3 : Array CpInfo := pool [(1, .class_ 2), (0, u "java/lang/Comparable"), (0, .class_ 4), (0, u "java/lang/Object")] 7

/-- java/lang/Comparable -/
def k3 : Class := { plain "java/lang/Comparable" (some 0) with
  accessFlags := 1537
  interfaces := #[]
  cf := some (fileOf pool3 1 #[] #[] 1537 3 #[] #[])
  fields := #[]
  methods := #[]
  instanceTypes := #[]
  staticTypes := #[]
  resolved := Array.replicate 12 none
  statics := none }

def pool4 : Array CpInfo := pool [(1, .class_ 2), (0, u "java/io/Serializable"), (0, .class_ 4), (0, u "java/lang/Object")] 2

/-- java/io/Serializable -/
def k4 : Class := { plain "java/io/Serializable" (some 0) with
  accessFlags := 1537
  interfaces := #[]
  cf := some (fileOf pool4 1 #[] #[] 1537 3 #[] #[])
  fields := #[]
  methods := #[]
  instanceTypes := #[]
  staticTypes := #[]
  resolved := Array.replicate 7 none
  statics := none }

def pool5 : Array CpInfo := pool [(2, .class_ 4), (1, u "java/lang/Enum"), (0, u "name"), (0, u "Ljava/lang/String;"), (2, u "ordinal"), (0, u "I"), (1, .class_ 14), (1, u "java/lang/Object"), (4, u "hash"), (86, .class_ 108), (1, u "java/lang/Enum$EnumDesc"), (2, .class_ 112), (0, u "java/lang/constant/Constable"), (0, .class_ 114), (0, u "java/lang/Comparable"), (0, .class_ 116), (0, u "java/io/Serializable")] 87

/-- java/lang/Enum -/
def k5 : Class := { plain "java/lang/Enum" (some 0) with
  accessFlags := 1057
  interfaces := #[2, 3, 4]
  cf := some (fileOf pool5 2 #[.nestMembers #[106]] #[] 1057 12 #[111, 113, 115] #[{ accessFlags := 18, nameIndex := 5, descriptorIndex := 6, attributes := #[] }, { accessFlags := 18, nameIndex := 9, descriptorIndex := 10, attributes := #[] }, { accessFlags := 2, nameIndex := 19, descriptorIndex := 10, attributes := #[] }])
  fields := #[{ name := "name", type := (.object "java/lang/String"), accessFlags := 18, slot := 0, constantValue := 0 }, { name := "ordinal", type := .int, accessFlags := 18, slot := 1, constantValue := 0 }, { name := "hash", type := .int, accessFlags := 2, slot := 2, constantValue := 0 }]
  methods := #[]
  instanceTypes := #[(.object "java/lang/String"), .int, .int]
  staticTypes := #[]
  resolved := Array.replicate 204 none
  statics := none }

def pool6 : Array CpInfo := pool [(1, .class_ 2), (0, u "com/example/proxybus/proxybus/model/TransactionKind"), (2, u "LBMP_IMPORT"), (0, u "Lcom/example/proxybus/proxybus/model/TransactionKind;"), (2, u "LBMP_EXPORT"), (2, u "IMPORT"), (2, u "EXPORT"), (2, u "WHEEL"), (2, u "INTERNAL"), (2, u "$VALUES"), (0, u "[Lcom/example/proxybus/proxybus/model/TransactionKind;"), (6, .class_ 34), (1, u "java/lang/Enum"), (8, u "label"), (0, u "Ljava/lang/String;")] 60

/-- com/example/proxybus/proxybus/model/TransactionKind -/
def k6 : Class := { plain "com/example/proxybus/proxybus/model/TransactionKind" (some 5) with
  accessFlags := 16433
  interfaces := #[]
  cf := some (fileOf pool6 1 #[] #[] 16433 32 #[] #[{ accessFlags := 16409, nameIndex := 5, descriptorIndex := 6, attributes := #[] }, { accessFlags := 16409, nameIndex := 9, descriptorIndex := 6, attributes := #[] }, { accessFlags := 16409, nameIndex := 12, descriptorIndex := 6, attributes := #[] }, { accessFlags := 16409, nameIndex := 15, descriptorIndex := 6, attributes := #[] }, { accessFlags := 16409, nameIndex := 18, descriptorIndex := 6, attributes := #[] }, { accessFlags := 16409, nameIndex := 21, descriptorIndex := 6, attributes := #[] }, { accessFlags := 18, nameIndex := 43, descriptorIndex := 44, attributes := #[] }, { accessFlags := 4122, nameIndex := 24, descriptorIndex := 25, attributes := #[] }])
  fields := #[{ name := "LBMP_IMPORT", type := (.object "com/example/proxybus/proxybus/model/TransactionKind"), accessFlags := 16409, slot := 0, constantValue := 0 }, { name := "LBMP_EXPORT", type := (.object "com/example/proxybus/proxybus/model/TransactionKind"), accessFlags := 16409, slot := 1, constantValue := 0 }, { name := "IMPORT", type := (.object "com/example/proxybus/proxybus/model/TransactionKind"), accessFlags := 16409, slot := 2, constantValue := 0 }, { name := "EXPORT", type := (.object "com/example/proxybus/proxybus/model/TransactionKind"), accessFlags := 16409, slot := 3, constantValue := 0 }, { name := "WHEEL", type := (.object "com/example/proxybus/proxybus/model/TransactionKind"), accessFlags := 16409, slot := 4, constantValue := 0 }, { name := "INTERNAL", type := (.object "com/example/proxybus/proxybus/model/TransactionKind"), accessFlags := 16409, slot := 5, constantValue := 0 }, { name := "label", type := (.object "java/lang/String"), accessFlags := 18, slot := 3, constantValue := 0 }, { name := "$VALUES", type := (.array (.object "com/example/proxybus/proxybus/model/TransactionKind")), accessFlags := 4122, slot := 6, constantValue := 0 }]
  methods := #[]
  instanceTypes := #[(.object "java/lang/String"), .int, .int, (.object "java/lang/String")]
  staticTypes := #[(.object "com/example/proxybus/proxybus/model/TransactionKind"), (.object "com/example/proxybus/proxybus/model/TransactionKind"), (.object "com/example/proxybus/proxybus/model/TransactionKind"), (.object "com/example/proxybus/proxybus/model/TransactionKind"), (.object "com/example/proxybus/proxybus/model/TransactionKind"), (.object "com/example/proxybus/proxybus/model/TransactionKind"), (.array (.object "com/example/proxybus/proxybus/model/TransactionKind"))]
  resolved := Array.replicate 105 none
  statics := some 0 }

def pool7 : Array CpInfo := pool [(2, .class_ 4), (1, u "java/lang/Object"), (0, u "<init>"), (0, u "()V"), (0, .fieldref 8 9), (0, .class_ 10), (0, .nameAndType 11 12), (0, u "com/example/proxybus/proxybus/model/TransactionKind"), (0, u "IMPORT"), (0, u "Lcom/example/proxybus/proxybus/model/TransactionKind;"), (0, .fieldref 8 14), (0, .nameAndType 15 12), (0, u "WHEEL"), (43, .class_ 60), (0, u "com/example/proxybus/proxybus/settlement/TucFlow"), (2, u "isTuc"), (0, u "(Lcom/example/proxybus/proxybus/model/TransactionKind;)Z")] 15

def k7m0 : Method := { name := "<init>", desc := "()V", sig := { parameters := [], returnType := none }, accessFlags := 2, code := none }
def k7c1 : Code := { maxStack := 2, maxLocals := 1, code := prog_59_method_2_code, exceptionTable := #[], attributes := #[] }
def k7m1 : Method := { name := "isTuc", desc := "(Lcom/example/proxybus/proxybus/model/TransactionKind;)Z", sig := { parameters := [(.object "com/example/proxybus/proxybus/model/TransactionKind")], returnType := some .boolean }, accessFlags := 8, code := some k7c1 }
/-- com/example/proxybus/proxybus/settlement/TucFlow -/
def k7 : Class := { plain "com/example/proxybus/proxybus/settlement/TucFlow" (some 0) with
  accessFlags := 48
  interfaces := #[]
  cf := some (fileOf pool7 59 #[] #[{ accessFlags := 2, nameIndex := 5, descriptorIndex := 6, attributes := #[] }, { accessFlags := 8, nameIndex := 63, descriptorIndex := 64, attributes := #[] }] 48 2 #[] #[])
  fields := #[]
  methods := #[k7m0, k7m1]
  instanceTypes := #[]
  staticTypes := #[]
  resolved := Array.replicate 80 none
  statics := none }

def pool8 : Array CpInfo := pool [(1, u "java/lang/Cloneable"), (0, .class_ 1), (0, u "java/lang/Object"), (0, .class_ 3)] 3

/-- java/lang/Cloneable -/
def k8 : Class := { plain "java/lang/Cloneable" (some 0) with
  accessFlags := 1537
  interfaces := #[]
  cf := some (fileOf pool8 2 #[] #[] 1537 4 #[] #[])
  fields := #[]
  methods := #[]
  instanceTypes := #[]
  staticTypes := #[]
  resolved := Array.replicate 8 none
  statics := none }

/-- the primitive byte -/
def k9 : Class := { plain "byte" none with kind := .primitive 'B', accessFlags := 0x411 }
/-- [B -/
def k10 : Class := { plain "[B" (some 0) with kind := .array 9 .byte, interfaces := #[8, 4], accessFlags := 1041 }

/-- the primitive int -/
def k11 : Class := { plain "int" none with kind := .primitive 'I', accessFlags := 0x411 }
/-- [I -/
def k12 : Class := { plain "[I" (some 0) with kind := .array 11 .int, interfaces := #[8, 4], accessFlags := 1041 }

def heap : Heap := #[{ cls := 6, slots := #[.ref 1, .ref 5, .ref 2, .ref 4, .ref 3, .ref 6, .null], vm := .statics 6 },
  { cls := 6, slots := #[.null, .int 0, .int 0, .null], vm := .none },
  { cls := 6, slots := #[.null, .int 2, .int 0, .null], vm := .none },
  { cls := 6, slots := #[.null, .int 4, .int 0, .null], vm := .none },
  { cls := 6, slots := #[.null, .int 3, .int 0, .null], vm := .none },
  { cls := 6, slots := #[.null, .int 1, .int 0, .null], vm := .none },
  { cls := 6, slots := #[.null, .int 5, .int 0, .null], vm := .none }]
def classes : Array Class := #[k0, k1, k2, k3, k4, k5, k6, k7, k8, k9, k10, k11, k12]
def interned : List (Array UInt16 × Addr) := []
def slotsUsed : Nat := 31
def theMethod : MethodId := ⟨1, 1⟩
def args0 : Array Value := #[.int 5]
def aboutOver (below : List Frame) : State where
  vm := { classes := classes, interned := interned.toArray }
  heap := heap
  slotsUsed := slotsUsed
  threads := #[{ frames := .invoking theMethod args0 :: below }]
def below0 : List Frame := [.native { method := ⟨0, 0⟩, args := #[] }]
def about1 : State := aboutOver below0
def p0 : Program := .bare "" "" ""
def e0 : Env := launch0.env 0 0 0
theorem w_frames : about1.frames = Frame.invoking theMethod args0 :: below0 := rfl
set_option maxRecDepth 65536 in
theorem w_args : argsFit about1.vm theMethod args0 = true := by decide +kernel
set_option maxRecDepth 65536 in
theorem w_heap : heapFits about1 = true := by decide +kernel
set_option maxRecDepth 65536 in
theorem w_runnable : about1.curStatus? = some .runnable := by decide +kernel
set_option maxRecDepth 65536 in
theorem w_alone : about1.alone = true := by decide +kernel
set_option maxRecDepth 65536 in
theorem w_named : about1.methodNamed? x = some theMethod := by decide +kernel
set_option maxRecDepth 65536 in
theorem w_hears : about1.hears theMethod below0 = true := by decide +kernel
set_option maxRecDepth 65536 in
theorem w_ripe : about1.ripe theMethod args0 below0 = true := by decide +kernel
theorem w_running : about1.status = .running := rfl
set_option maxRecDepth 65536 in
theorem w_room : about1.hasRoom e0.platform room_1 = true :=
  launch0.hasRoom_least _ room_1 (by decide +kernel) (by decide +kernel) (by decide +kernel) (by decide +kernel) (by decide +kernel) (by decide +kernel)
theorem allAtoms_all (ts : List Jvm.Cond) (a : Array Jvm.Value) (st : Jvm.State) : (allAtoms ts).before a st = ts.all (fun c => c.before a st) := by
  induction ts with
  | nil => rfl
  | cons c t ih =>
    show (Jvm.Cond.and c (allAtoms t)).before a st = _
    rw [Jvm.Cond.before_and, ih, List.all_cons]
def words1 : List Jvm.Cond := Jvm.Cond.code x code maxLocals ret :: tables_1
/-- a 'code' word, met by the world's own term for the bytes: nothing is compared byte by byte -/
theorem code_word {y : MethodName} {bytes : ByteArray} {mx : Nat} {rt : Option FieldType} {a : Array Value} {s : State} {m : MethodId} {meth : Method} {c : Code} (h1 : s.methodNamed? y = some m) (h2 : s.vm.method? m = some meth) (h3 : meth.code = some c) (h4 : c.code = bytes)
    (h5 : (c.maxLocals == mx && c.exceptionTable.isEmpty && decide (c.maxStack ≤ mostOperands) && decide (meth.sig.returnType = rt) && !meth.locks && decide (parseMethodDescriptor y.desc = some meth.sig)) = true) : (Jvm.Cond.code y bytes mx rt).before a s = true := by
  simp only [Bool.and_eq_true, beq_iff_eq, Bool.not_eq_true', decide_eq_true_eq] at h5
  obtain ⟨⟨⟨⟨⟨g1, g2⟩, g3⟩, g4⟩, g5⟩, g6⟩ := h5
  simp [Cond.before, Cond.holds, Cond.value, h1, h2, h3, h4, g1, g2, g3, g4, g5, g6]
def isCode : Jvm.Cond → Bool
  | .code _ _ _ _ => true
  | _ => false
theorem all_split {L : List Jvm.Cond} {P : Jvm.Cond → Bool} (h1 : L.all (fun c => isCode c || P c) = true) (h2 : ∀ c ∈ L.filter isCode, P c = true) : L.all P = true := by
  refine List.all_eq_true.mpr fun c hc => ?_
  have h := List.all_eq_true.mp h1 c hc
  rcases Bool.eq_false_or_eq_true (isCode c) with hi | hi
  · exact h2 c (List.mem_filter.mpr ⟨hc, hi⟩)
  · simpa [hi] using h
set_option maxRecDepth 65536 in
theorem w_c0 : (Jvm.Cond.code x code maxLocals ret).before args0 about1 = true := code_word (m := ⟨1, 1⟩) (meth := k1m1) (c := k1c1) (by decide +kernel) rfl rfl rfl (by decide +kernel)
set_option maxRecDepth 65536 in
theorem w_c1 : (Jvm.Cond.code ({ cls := "com/example/proxybus/proxybus/settlement/TucFlow", name := "isTuc", desc := "(Lcom/example/proxybus/proxybus/model/TransactionKind;)Z" } : Jvm.MethodName) prog_59_method_2_code (1 : Nat) (Option.some Jvm.ClassFile.FieldType.boolean)).before args0 about1 = true := code_word (m := ⟨7, 1⟩) (meth := k7m1) (c := k7c1) (by decide +kernel) rfl rfl rfl (by decide +kernel)
def codes1 : List Jvm.Cond := [Jvm.Cond.code x code maxLocals ret, Jvm.Cond.code ({ cls := "com/example/proxybus/proxybus/settlement/TucFlow", name := "isTuc", desc := "(Lcom/example/proxybus/proxybus/model/TransactionKind;)Z" } : Jvm.MethodName) prog_59_method_2_code (1 : Nat) (Option.some Jvm.ClassFile.FieldType.boolean)]
set_option maxRecDepth 65536 in
theorem codes_eq : words1.filter isCode = codes1 := rfl
theorem w_codes : ∀ c ∈ words1.filter isCode, c.before args0 about1 = true := by
  rw [codes_eq]
  intro c hc
  simp only [codes1, List.mem_cons, List.not_mem_nil, or_false] at hc
  rcases hc with rfl | rfl
  · exact w_c0
  · exact w_c1
set_option maxRecDepth 65536 in
theorem w_t1 : words1.all (fun c => isCode c || c.before args0 about1) = true := by decide +kernel
theorem w_tables : (allAtoms (Jvm.Cond.code x code maxLocals ret :: tables_1)).before args0 about1 = true := by
  rw [allAtoms_all]
  show words1.all (fun c => c.before args0 about1) = true
  refine all_split ?_ w_codes
  rw [w_t1]
set_option maxRecDepth 65536 in
theorem w_case : (Jvm.Cond.and given_1 narrow_1).before args0 about1 = true := by decide +kernel
theorem w_applies : (headSpec (Jvm.Cond.code x code maxLocals ret :: tables_1) room_1).applies x e0.platform about1 = true :=
  (Spec.applies_iff w_frames).mpr ⟨w_running, w_runnable, w_alone, w_named, w_hears, w_ripe, w_room, w_tables⟩
theorem atStart : AtStart classFile x code maxLocals ret World_1 tables_1 room_1 Calls_1 rest_1 Pre_1 launch0 p0 e0 about1 theMethod args0 below0 :=
  ⟨lists_1, trivial, launch0.admits_env _ _ _, launch0.least_env, fairChoices_fair.cas, fairChoices_fair.clock, w_frames, w_args, w_heap, w_applies, trivial, trivial, w_case⟩
end start1
theorem witness_1 : WitnessClaimed_1 := ⟨start1.p0, start1.e0, start1.about1, start1.theMethod, start1.args0, start1.below0, start1.atStart⟩
end Jvm.Pilot.@@N@@
