import JvmDerived
import JvmDerived.Pilot.@@N@@Statement
import JvmDerived.Pilot.@@N@@Code
set_option linter.unusedVariables false
set_option linter.unusedSimpArgs false
@@BLOCK:NumsL.lean.txt@@
namespace Jvm.Pilot.@@N@@
open Jvm Jvm.ClassFile Sem Op Lib Jvm.Free Jvm.Stand Jvm.LawKit Jvm.RoadKit Bundle Jvm.Pilot.@@N@@.Jvm.D
/-- the run goes on from U and ends as Q says -/
def Goes (p : Program) (e : Env) (below : List Frame) (U : State) (Q : Outcome → State → Prop) : Prop := ∃ s₂ o, Steps p.tables e below U s₂ ∧ s₂.status = .running ∧ Ended s₂ below o ∧ Q o s₂
theorem Goes.by {p : Program} {e : Env} {below : List Frame} {U U' : State} {Q : Outcome → State → Prop} (h : ∀ t, Steps p.tables e below U' t → Steps p.tables e below U t) (g : Goes p e below U' Q) : Goes p e below U Q := by
  obtain ⟨s, o, h1, h2⟩ := g; exact ⟨s, o, h _ h1, h2⟩
theorem Goes.tr {p : Program} {e : Env} {below : List Frame} {U U' : State} {Q : Outcome → State → Prop} (h : Steps p.tables e below U U') (g : Goes p e below U' Q) : Goes p e below U Q := Goes.by (fun _ k => h.trans k) g
theorem Goes.join {α : Type} {p : Program} {e : Env} {below : List Frame} {U : State} {Q : Outcome → State → Prop} (P : α → Prop) (S : α → State) (k : (∀ z, P z → Goes p e below (S z) Q) → Goes p e below U Q) (j : ∀ z, P z → Goes p e below (S z) Q) : Goes p e below U Q := k j
theorem Goes.out {p : Program} {e : Env} {below : List Frame} {U : State} {Q : Outcome → State → Prop} (g : Goes p e below U Q) : ∃ s₂ o, Steps p.tables e below U s₂ ∧ s₂.status = .running ∧ Ended s₂ below o ∧ Q o s₂ := g
/-- a callee that writes nothing and returns r -/
def QP (r : Option Value) (h0 : Heap) (n0 : Nat) (v : Option Value) (h : Heap) (L : List Loc) : Prop := v = r ∧ Fr n0 L ∧ h = h0
/-- the law -/
def QL (n0 : Nat) (v : Option Value) (h : Heap) (L : List Loc) : Prop := v = some (.int 1) ∧ Fr n0 L
theorem own_lt {a b : Int64} (h : a < b) : lcmpW a b < 0 := by rw [lcW]; exact (lc_lt a b).mpr h
theorem own_nlt {a b : Int64} (h : ¬ a < b) : ¬ lcmpW a b < 0 := by rw [lcW]; exact fun q => h ((lc_lt a b).mp q)
theorem own_gt {a b : Int64} (h : b < a) : 0 < lcmpW a b := by rw [lcW]; exact (lc_gt a b).mpr h
theorem own_ngt {a b : Int64} (h : ¬ b < a) : ¬ 0 < lcmpW a b := by rw [lcW]; exact fun q => h ((lc_gt a b).mp q)
theorem own_eq {a b : Int64} (h : a = b) : lcmpW a b = 0 := by rw [lcW]; exact (lc_eq a b).mpr h
theorem own_neq {a b : Int64} (h : ¬ a = b) : ¬ lcmpW a b = 0 := by rw [lcW]; exact fun q => h ((lc_eq a b).mp q)
theorem own_staKeep {Z : State} {h h' : Heap} {C n d : String} {v : Value} {ws : List Addr} (F : Sta Z h C n d v) (K : Keep h h' ws) (q : ∀ x ∈ ws, ∃ c : Cell, h[x]? = some c ∧ c.vm.isStatics = false) : Sta Z h' C n d v := by
  obtain ⟨cf, i, k, f, st, cell, h1, h2, h3, h4, h5, h6, h7⟩ := F
  refine ⟨cf, i, k, f, st, cell, h1, h2, h3, h4, K.2.1 st cell h5 (fun hm => ?_), h6, h7⟩
  obtain ⟨c, e1, e2⟩ := q st hm
  cases e1.symm.trans h5; rw [e2] at h6; cases h6
theorem own_nsE {Z : State} {h : Heap} {a : Addr} {C : String} (F : Exa Z h a C) : ∃ c : Cell, h[a]? = some c ∧ c.vm.isStatics = false := by
  obtain ⟨c, k, h1, h2, h3, h4, h5⟩ := F; exact ⟨c, h1, h4⟩
theorem own_nsV {Z : State} {h : Heap} {a : Addr} {k : ClassId} {ty : FieldType} {n : Int32} {vs : List Value} {d : Value} (F : Arv Z h a k ty n vs d) : ∃ c : Cell, h[a]? = some c ∧ c.vm.isStatics = false := by
  obtain ⟨c, A, r⟩ := F; exact ⟨c, A.1, A.plain⟩
theorem own_fldI {s : State} {args : Array Value} {t : Term} {a : Addr} {C n d : String} {k : Int32} (ev : t.eval args s none [] s = some (.ref a)) (h : (Cond.eq (.field t C n d) (.int k)).value args s none s [] = some true) : Fld s s.heap a C n d (.int k) := by
  obtain ⟨x, y, h1, h2, k1, k2⟩ := cmp_v (Or.inl h)
  obtain rfl : y = .int k := (Option.some.inj h2).symm
  obtain ⟨z, rfl⟩ := k2
  have e1 : (Cond.eq (.field t C n d) (.int k)).value args s none s [] = some (decide (z = k)) := by simp [Cond.value, h1, h2]
  have e2 : z = k := gotT e1 h
  subst e2
  rw [fld_at ev] at h1
  exact Fld.start h1
theorem own_fldR {s : State} {args : Array Value} {t u : Term} {a b : Addr} {C n d : String} (ev : t.eval args s none [] s = some (.ref a)) (eu : u.eval args s none [] s = some (.ref b)) (h : (Cond.eq (.field t C n d) u).value args s none s [] = some true) : Fld s s.heap a C n d (.ref b) := by
  obtain ⟨x, y, h1, h2, k1, k2⟩ := cmp_v (Or.inl h)
  obtain rfl : y = .ref b := Option.some.inj (h2.symm.trans eu)
  have hx : x.isRef = true := k2.2
  have e2 : x = .ref b := gotT (eq_R h1 h2 hx rfl) h
  subst e2
  rw [fld_at ev] at h1
  exact Fld.start h1
def Pins (Z : State) (h : Heap) (w : Nat → Addr) : Prop := Sta Z h "com/example/nextkey/nextkey/table/Collation" "UTF8MB4_0900_AI_CI" "Lcom/example/nextkey/nextkey/table/Collation;" (.ref (w 0)) ∧ Exa Z h (w 0) "com/example/nextkey/nextkey/table/Collation" ∧ Sta Z h "com/example/nextkey/nextkey/table/Collation" "UTF8MB4_BIN" "Lcom/example/nextkey/nextkey/table/Collation;" (.ref (w 1)) ∧ Exa Z h (w 1) "com/example/nextkey/nextkey/table/Collation" ∧ Sta Z h "com/example/nextkey/nextkey/table/Collation" "UTF8MB4_0900_BIN" "Lcom/example/nextkey/nextkey/table/Collation;" (.ref (w 2)) ∧ Exa Z h (w 2) "com/example/nextkey/nextkey/table/Collation" ∧ Fld Z h (w 1) "java/lang/Enum" "ordinal" "I" (.int (2 : Int32)) ∧ Fld Z h (w 2) "java/lang/Enum" "ordinal" "I" (.int (1 : Int32)) ∧ Fld Z h (w 0) "java/lang/Enum" "ordinal" "I" (.int (0 : Int32)) ∧ Fld Z h (w 2) "com/example/nextkey/nextkey/table/Collation" "binary" "Z" (.int (1 : Int32)) ∧ Fld Z h (w 1) "com/example/nextkey/nextkey/table/Collation" "binary" "Z" (.int (1 : Int32)) ∧ Fld Z h (w 0) "com/example/nextkey/nextkey/table/Collation" "binary" "Z" (.int (0 : Int32))
theorem own_ne_1_2 {Z : State} {h : Heap} {w : Nat → Addr} (P : Pins Z h w) : w 1 ≠ w 2 := Fld.ne P.2.2.2.2.2.2.1 P.2.2.2.2.2.2.2.1 (fun q => absurd (Value.int.inj q) (by decide))
theorem own_ne_1_0 {Z : State} {h : Heap} {w : Nat → Addr} (P : Pins Z h w) : w 1 ≠ w 0 := Fld.ne P.2.2.2.2.2.2.1 P.2.2.2.2.2.2.2.2.1 (fun q => absurd (Value.int.inj q) (by decide))
theorem own_ne_2_0 {Z : State} {h : Heap} {w : Nat → Addr} (P : Pins Z h w) : w 2 ≠ w 0 := Fld.ne P.2.2.2.2.2.2.2.1 P.2.2.2.2.2.2.2.2.1 (fun q => absurd (Value.int.inj q) (by decide))
theorem own_split (x : Int32) : ((x &&& (2147483647 : Int32)) % (3 : Int32)) = (0 : Int32) ∨ ((x &&& (2147483647 : Int32)) % (3 : Int32)) = (1 : Int32) ∨ ((x &&& (2147483647 : Int32)) % (3 : Int32)) = (2 : Int32) := by
  have e1 : (x &&& (2147483647 : Int32)).toInt = x.toInt % 2 ^ 31 := Jvm.Kit.i32_mask x (2147483647 : Int32) (k := 31) (by decide) (by decide)
  have e2 : (((x &&& (2147483647 : Int32)) % (3 : Int32))).toInt = (x &&& (2147483647 : Int32)).toInt % (3 : Int32).toInt := Jvm.Kit.i32_rem_nonneg (by omega)
  rw [show (3 : Int32).toInt = 3 from by decide] at e2
  simp only [← Int32.toInt_inj]
  rw [show (0 : Int32).toInt = 0 from by decide, show (1 : Int32).toInt = 1 from by decide, show (2 : Int32).toInt = 2 from by decide]
  omega
theorem d1_0 : decode method_2_code 0 = .ok (.iload_n 0, 1) := by decide +kernel
theorem d1_1 : decode method_2_code 1 = .ok (.ldc 7, 2) := by decide +kernel
theorem d1_3 : decode method_2_code 3 = .ok (.iand, 1) := by decide +kernel
theorem d1_4 : decode method_2_code 4 = .ok (.iconst 3, 1) := by decide +kernel
theorem d1_5 : decode method_2_code 5 = .ok (.irem, 1) := by decide +kernel
theorem d1_6 : decode method_2_code 6 = .ok (.istore_n 1, 1) := by decide +kernel
theorem d1_7 : decode method_2_code 7 = .ok (.iload_n 1, 1) := by decide +kernel
theorem d1_8 : decode method_2_code 8 = .ok (.ifCond .ne 7, 3) := by decide +kernel
theorem d1_11 : decode method_2_code 11 = .ok (.getstatic 8, 3) := by decide +kernel
theorem d1_14 : decode method_2_code 14 = .ok (.areturn, 1) := by decide +kernel
theorem ef1_I (m : MethodId) (x0 : Int32) : entryFrame m #[(.int x0)] 2 = mkF m 0 #[.val (.int x0), .unset] [] := by first | (simp [entryFrame, mkF, argsToLocals, Value.category]; done) | rfl
theorem pn0 : plainName "com/example/nextkey/nextkey/table/CollationCommonPinLaw" = true := by first | (simp [plainName, overriddenIn]; done) | decide +kernel
theorem pd0 : parseMethodDescriptor "(I)Lcom/example/nextkey/nextkey/table/Collation;" = some ⟨[.int], some (.object "com/example/nextkey/nextkey/table/Collation")⟩ := by decide +kernel
theorem d2_0 : decode prog_66_method_6_code 0 = .ok (.aload_n 0, 1) := by decide +kernel
theorem d2_1 : decode prog_66_method_6_code 1 = .ok (.aload_n 1, 1) := by decide +kernel
theorem d2_2 : decode prog_66_method_6_code 2 = .ok (.if_acmp .eq 10, 3) := by decide +kernel
theorem d2_12 : decode prog_66_method_6_code 12 = .ok (.aload_n 0, 1) := by decide +kernel
theorem d2_13 : decode prog_66_method_6_code 13 = .ok (.astore_n 2, 1) := by decide +kernel
theorem d2_14 : decode prog_66_method_6_code 14 = .ok (.goto 17, 3) := by decide +kernel
theorem d2_31 : decode prog_66_method_6_code 31 = .ok (.aload_n 2, 1) := by decide +kernel
theorem d2_32 : decode prog_66_method_6_code 32 = .ok (.areturn, 1) := by decide +kernel
theorem ef2_RR (m : MethodId) (x0 : Addr) (x1 : Addr) : entryFrame m #[(.ref x0), (.ref x1)] 3 = mkF m 0 #[.val (.ref x0), .val (.ref x1), .unset] [] := by first | (simp [entryFrame, mkF, argsToLocals, Value.category]; done) | rfl
theorem pn1 : plainName "com/example/nextkey/nextkey/table/Collation" = true := by first | (simp [plainName, overriddenIn]; done) | decide +kernel
theorem pd1 : parseMethodDescriptor "(Lcom/example/nextkey/nextkey/table/Collation;Lcom/example/nextkey/nextkey/table/Collation;)Lcom/example/nextkey/nextkey/table/Collation;" = some ⟨[(.object "com/example/nextkey/nextkey/table/Collation"), (.object "com/example/nextkey/nextkey/table/Collation")], some (.object "com/example/nextkey/nextkey/table/Collation")⟩ := by decide +kernel
theorem d1_15 : decode method_2_code 15 = .ok (.iload_n 1, 1) := by decide +kernel
theorem d1_16 : decode method_2_code 16 = .ok (.iconst 1, 1) := by decide +kernel
theorem d1_17 : decode method_2_code 17 = .ok (.if_icmp .ne 7, 3) := by decide +kernel
theorem d1_20 : decode method_2_code 20 = .ok (.getstatic 14, 3) := by decide +kernel
theorem d1_23 : decode method_2_code 23 = .ok (.areturn, 1) := by decide +kernel
theorem d2_5 : decode prog_66_method_6_code 5 = .ok (.aload_n 1, 1) := by decide +kernel
theorem d2_6 : decode prog_66_method_6_code 6 = .ok (.getfield 36, 3) := by decide +kernel
theorem d2_9 : decode prog_66_method_6_code 9 = .ok (.ifCond .ne 8, 3) := by decide +kernel
theorem d2_17 : decode prog_66_method_6_code 17 = .ok (.aload_n 0, 1) := by decide +kernel
theorem d2_18 : decode prog_66_method_6_code 18 = .ok (.getfield 36, 3) := by decide +kernel
theorem d2_21 : decode prog_66_method_6_code 21 = .ok (.ifCond .ne 8, 3) := by decide +kernel
theorem d2_24 : decode prog_66_method_6_code 24 = .ok (.aload_n 1, 1) := by decide +kernel
theorem d2_25 : decode prog_66_method_6_code 25 = .ok (.astore_n 2, 1) := by decide +kernel
theorem d2_26 : decode prog_66_method_6_code 26 = .ok (.goto 5, 3) := by decide +kernel
theorem d1_24 : decode method_2_code 24 = .ok (.getstatic 17, 3) := by decide +kernel
theorem d1_27 : decode method_2_code 27 = .ok (.areturn, 1) := by decide +kernel
theorem d2_29 : decode prog_66_method_6_code 29 = .ok (.aconst_null, 1) := by decide +kernel
theorem d2_30 : decode prog_66_method_6_code 30 = .ok (.astore_n 2, 1) := by decide +kernel
theorem ef0_II (m : MethodId) (x0 : Int32) (x1 : Int32) : entryFrame m #[(.int x0), (.int x1)] maxLocals = mkF m 0 #[.val (.int x0), .val (.int x1), .unset, .unset, .unset] [] := by first | (simp [entryFrame, mkF, argsToLocals, Value.category, maxLocals]; done) | rfl
set_option maxRecDepth 65536 in
set_option maxHeartbeats 40000000 in
theorem r1_0 (l : Launch) (Z : State) (a0 : Array Value) (hw : ∀ d ∈ tables_1, d.before a0 Z = true) (ws : List Jvm.Cond) (h0 : Heap) (n0 : Nat) (Z0 : n0 ≤ h0.size) (k : Int32) (w : Nat → Addr) (hk : ((k &&& (2147483647 : Int32)) % (3 : Int32)) = (0 : Int32)) (P : Pins Z h0 w) :
    MetFree l (⟨"com/example/nextkey/nextkey/table/CollationCommonPinLaw", "pick", "(I)Lcom/example/nextkey/nextkey/table/Collation;"⟩ : MethodName) (head1 (Jvm.Cond.code (⟨"com/example/nextkey/nextkey/table/CollationCommonPinLaw", "pick", "(I)Lcom/example/nextkey/nextkey/table/Collation;"⟩ : MethodName) method_2_code 2 (some (.object "com/example/nextkey/nextkey/table/Collation")) :: ws) ({ frames := 0, cells := 0, slots := 0, locals := 0 } : Room)) (fun a U => a = #[(.int k)] ∧ Z.Warmed39 U.vm ∧ U.heap = h0) (fun _ _ _ _ _ => True) (fun _ U o U' => ∃ v L, o = .returned v ∧ QP (some (.ref (w 0))) h0 n0 v U'.heap L ∧ FrameEnd U o U' L ({ frames := 0, cells := 0, slots := 0, locals := 0 } : Room).cells ({ frames := 0, cells := 0, slots := 0, locals := 0 } : Room).slots) := by
  refine MetFree.of_bodySF (plainFor_of_name pn0) hisR ?_
  intro p e s m args below meth c s₁ Bd hml0 hP hK
  obtain ⟨rfl, hZ, hh⟩ := hP
  have hx := Bd.exec
  have hby := Bd.bytes
  have hml : c.maxLocals = 2 := hml0
  have hown : s.vm.findClass "com/example/nextkey/nextkey/table/CollationCommonPinLaw" = some m.cls := findClass_of_methodNamed Bd.named
  have hnm := (name_of_methodNamed Bd.named Bd.method).1
  have X0 : Stand p l e ({ frames := 0, cells := 0, slots := 0, locals := 0 } : Room) s m #[(.int k)] below meth c s₁ [] 0 0 := Stand.of_body Bd
  have e0 : s₁.heap = h0 := by rw [← hh, Bd.state]; rfl
  have N0 := Fr.nil n0
  refine Goes.out (Goes.by (fun tz kz => castTop (ef1_I m k) kz) ?_)
  show Goes p e below (s₁.setTop (mkF m 0 #[.val (.int k), .unset] [])) _
  refine Goes.by (fun _ kz => XS.iloadN X0.here hx rfl (hb hby d1_0) rfl (X0.ldcInt hx hown (mvT hZ (hw _ (List.mem_of_getElem? (i := 4) rfl))) (g := (mkF m 1 #[.val (.int k), .unset] [(.int k)])) rfl (hb hby d1_1) _ (XS.iand X0.here hx rfl (hb hby d1_3) rfl kz))) ?_
  show Goes p e below (s₁.setTop (mkF m 4 #[.val (.int k), .unset] [(.int (k &&& (2147483647 : Int32)))])) _
  refine Goes.by (fun _ kz => XS.iconst X0.here hx rfl (hb hby d1_4) (iremM X0 hx rfl (hb hby d1_5) rfl (by decide) (XS.istoreN X0.here hx rfl (hb hby d1_6) rfl (l' := #[.val (.int k), .val (.int ((k &&& (2147483647 : Int32)) % (3 : Int32)))]) rfl kz))) ?_
  show Goes p e below (s₁.setTop (mkF m 7 #[.val (.int k), .val (.int ((k &&& (2147483647 : Int32)) % (3 : Int32)))] [])) _
  rw [hk]
  show Goes p e below (s₁.setTop (mkF m 7 #[.val (.int k), .val (.int (0 : Int32))] [])) _
  refine Goes.by (fun _ kz => XS.iloadN X0.here hx rfl (hb hby d1_7) rfl (XS.ifNo X0.here hx rfl (hb hby d1_8) rfl ((if0 _ _).trans (teq (by decide : (0 : Int32) = (0 : Int32))).2) kz)) ?_
  obtain ⟨T1, X1, e1, st1⟩ := getS2 X0 hx hZ hown (host := "") (Or.inl (hw _ (List.mem_of_getElem? (i := 5) rfl))) Via.refl e0 P.1 (g := (mkF m 11 #[.val (.int k), .val (.int (0 : Int32))] [])) rfl (hb hby d1_11)
  refine Goes.by st1 ?_
  show Goes p e below (T1.setTop (mkF m 14 #[.val (.int k), .val (.int (0 : Int32))] [(.ref (w 0))])) _
  obtain ⟨fs, hr, hrun, hended, hW, hsame⟩ := X1.leave (v := some (.ref (w 0))) (fun h => by rw [Bd.returns] at h; cases h)
  exact ⟨_, _, retOut X1 hx (t := (.object "com/example/nextkey/nextkey/table/Collation")) Bd.returns rfl (Or.inr (Or.inr (Or.inr (Or.inr ⟨rfl, rfl, rfl⟩)))) (hb hby d1_14) hr, hrun, hended, _, _, rfl, ⟨rfl, N0, e1⟩, ⟨_, rfl⟩, hW, hsame.mono (by decide) (by decide)⟩
set_option maxRecDepth 65536 in
set_option maxHeartbeats 40000000 in
theorem r2_1 (l : Launch) (Z : State) (a0 : Array Value) (hw : ∀ d ∈ tables_1, d.before a0 Z = true) (ws : List Jvm.Cond) (h0 : Heap) (n0 : Nat) (Z0 : n0 ≤ h0.size) (w : Nat → Addr) (P : Pins Z h0 w) :
    MetFree l (⟨"com/example/nextkey/nextkey/table/Collation", "common", "(Lcom/example/nextkey/nextkey/table/Collation;Lcom/example/nextkey/nextkey/table/Collation;)Lcom/example/nextkey/nextkey/table/Collation;"⟩ : MethodName) (head1 (Jvm.Cond.code (⟨"com/example/nextkey/nextkey/table/Collation", "common", "(Lcom/example/nextkey/nextkey/table/Collation;Lcom/example/nextkey/nextkey/table/Collation;)Lcom/example/nextkey/nextkey/table/Collation;"⟩ : MethodName) prog_66_method_6_code 3 (some (.object "com/example/nextkey/nextkey/table/Collation")) :: ws) ({ frames := 0, cells := 0, slots := 0, locals := 0 } : Room)) (fun a U => a = #[(.ref (w 0)), (.ref (w 0))] ∧ Z.Warmed39 U.vm ∧ U.heap = h0) (fun _ _ _ _ _ => True) (fun _ U o U' => ∃ v L, o = .returned v ∧ QP (some (.ref (w 0))) h0 n0 v U'.heap L ∧ FrameEnd U o U' L ({ frames := 0, cells := 0, slots := 0, locals := 0 } : Room).cells ({ frames := 0, cells := 0, slots := 0, locals := 0 } : Room).slots) := by
  refine MetFree.of_bodySF (plainFor_of_name pn1) hisR ?_
  intro p e s m args below meth c s₁ Bd hml0 hP hK
  obtain ⟨rfl, hZ, hh⟩ := hP
  have hx := Bd.exec
  have hby := Bd.bytes
  have hml : c.maxLocals = 3 := hml0
  have hown : s.vm.findClass "com/example/nextkey/nextkey/table/Collation" = some m.cls := findClass_of_methodNamed Bd.named
  have hnm := (name_of_methodNamed Bd.named Bd.method).1
  have X0 : Stand p l e ({ frames := 0, cells := 0, slots := 0, locals := 0 } : Room) s m #[(.ref (w 0)), (.ref (w 0))] below meth c s₁ [] 0 0 := Stand.of_body Bd
  have e0 : s₁.heap = h0 := by rw [← hh, Bd.state]; rfl
  have N0 := Fr.nil n0
  refine Goes.out (Goes.by (fun tz kz => castTop (ef2_RR m ((w 0)) ((w 0))) kz) ?_)
  show Goes p e below (s₁.setTop (mkF m 0 #[.val (.ref (w 0)), .val (.ref (w 0)), .unset] [])) _
  refine Goes.by (fun _ kz => XS.aloadN X0.here hx rfl (hb hby d2_0) rfl rfl (XS.aloadN X0.here hx rfl (hb hby d2_1) rfl rfl (Jvm.RoadKit.acmp (g := (mkF m 2 #[.val (.ref (w 0)), .val (.ref (w 0)), .unset] [(.ref (w 0)), (.ref (w 0))])) X0 hx rfl rfl rfl (pc0 := 2) (pc' := 12) (same := true) rfl (hb hby d2_2) rfl (decide_eq_true rfl) (by decide) (by decide) kz))) ?_
  show Goes p e below (s₁.setTop (mkF m 12 #[.val (.ref (w 0)), .val (.ref (w 0)), .unset] [])) _
  refine Goes.by (fun _ kz => XS.aloadN X0.here hx rfl (hb hby d2_12) rfl rfl (XS.astoreN X0.here hx rfl (hb hby d2_13) rfl rfl (l' := #[.val (.ref (w 0)), .val (.ref (w 0)), .val (.ref (w 0))]) rfl (XS.goto X0.here hx rfl (pc0 := 14) (pc' := 31) rfl (hb hby d2_14) (by decide) (by decide) kz))) ?_
  show Goes p e below (s₁.setTop (mkF m 31 #[.val (.ref (w 0)), .val (.ref (w 0)), .val (.ref (w 0))] [])) _
  refine Goes.by (fun _ kz => XS.aloadN X0.here hx rfl (hb hby d2_31) rfl rfl kz) ?_
  show Goes p e below (s₁.setTop (mkF m 32 #[.val (.ref (w 0)), .val (.ref (w 0)), .val (.ref (w 0))] [(.ref (w 0))])) _
  obtain ⟨fs, hr, hrun, hended, hW, hsame⟩ := X0.leave (v := some (.ref (w 0))) (fun h => by rw [Bd.returns] at h; cases h)
  exact ⟨_, _, retOut X0 hx (t := (.object "com/example/nextkey/nextkey/table/Collation")) Bd.returns rfl (Or.inr (Or.inr (Or.inr (Or.inr ⟨rfl, rfl, rfl⟩)))) (hb hby d2_32) hr, hrun, hended, _, _, rfl, ⟨rfl, N0, e0⟩, ⟨_, rfl⟩, hW, hsame.mono (by decide) (by decide)⟩
set_option maxRecDepth 65536 in
set_option maxHeartbeats 40000000 in
theorem r1_1 (l : Launch) (Z : State) (a0 : Array Value) (hw : ∀ d ∈ tables_1, d.before a0 Z = true) (ws : List Jvm.Cond) (h0 : Heap) (n0 : Nat) (Z0 : n0 ≤ h0.size) (k : Int32) (w : Nat → Addr) (hk : ((k &&& (2147483647 : Int32)) % (3 : Int32)) = (1 : Int32)) (P : Pins Z h0 w) :
    MetFree l (⟨"com/example/nextkey/nextkey/table/CollationCommonPinLaw", "pick", "(I)Lcom/example/nextkey/nextkey/table/Collation;"⟩ : MethodName) (head1 (Jvm.Cond.code (⟨"com/example/nextkey/nextkey/table/CollationCommonPinLaw", "pick", "(I)Lcom/example/nextkey/nextkey/table/Collation;"⟩ : MethodName) method_2_code 2 (some (.object "com/example/nextkey/nextkey/table/Collation")) :: ws) ({ frames := 0, cells := 0, slots := 0, locals := 0 } : Room)) (fun a U => a = #[(.int k)] ∧ Z.Warmed39 U.vm ∧ U.heap = h0) (fun _ _ _ _ _ => True) (fun _ U o U' => ∃ v L, o = .returned v ∧ QP (some (.ref (w 2))) h0 n0 v U'.heap L ∧ FrameEnd U o U' L ({ frames := 0, cells := 0, slots := 0, locals := 0 } : Room).cells ({ frames := 0, cells := 0, slots := 0, locals := 0 } : Room).slots) := by
  refine MetFree.of_bodySF (plainFor_of_name pn0) hisR ?_
  intro p e s m args below meth c s₁ Bd hml0 hP hK
  obtain ⟨rfl, hZ, hh⟩ := hP
  have hx := Bd.exec
  have hby := Bd.bytes
  have hml : c.maxLocals = 2 := hml0
  have hown : s.vm.findClass "com/example/nextkey/nextkey/table/CollationCommonPinLaw" = some m.cls := findClass_of_methodNamed Bd.named
  have hnm := (name_of_methodNamed Bd.named Bd.method).1
  have X0 : Stand p l e ({ frames := 0, cells := 0, slots := 0, locals := 0 } : Room) s m #[(.int k)] below meth c s₁ [] 0 0 := Stand.of_body Bd
  have e0 : s₁.heap = h0 := by rw [← hh, Bd.state]; rfl
  have N0 := Fr.nil n0
  refine Goes.out (Goes.by (fun tz kz => castTop (ef1_I m k) kz) ?_)
  show Goes p e below (s₁.setTop (mkF m 0 #[.val (.int k), .unset] [])) _
  refine Goes.by (fun _ kz => XS.iloadN X0.here hx rfl (hb hby d1_0) rfl (X0.ldcInt hx hown (mvT hZ (hw _ (List.mem_of_getElem? (i := 4) rfl))) (g := (mkF m 1 #[.val (.int k), .unset] [(.int k)])) rfl (hb hby d1_1) _ (XS.iand X0.here hx rfl (hb hby d1_3) rfl kz))) ?_
  show Goes p e below (s₁.setTop (mkF m 4 #[.val (.int k), .unset] [(.int (k &&& (2147483647 : Int32)))])) _
  refine Goes.by (fun _ kz => XS.iconst X0.here hx rfl (hb hby d1_4) (iremM X0 hx rfl (hb hby d1_5) rfl (by decide) (XS.istoreN X0.here hx rfl (hb hby d1_6) rfl (l' := #[.val (.int k), .val (.int ((k &&& (2147483647 : Int32)) % (3 : Int32)))]) rfl kz))) ?_
  show Goes p e below (s₁.setTop (mkF m 7 #[.val (.int k), .val (.int ((k &&& (2147483647 : Int32)) % (3 : Int32)))] [])) _
  rw [hk]
  show Goes p e below (s₁.setTop (mkF m 7 #[.val (.int k), .val (.int (1 : Int32))] [])) _
  refine Goes.by (fun _ kz => XS.iloadN X0.here hx rfl (hb hby d1_7) rfl (XS.ifYes X0.here hx rfl (pc0 := 8) (pc' := 15) rfl (hb hby d1_8) rfl ((if0 _ _).trans (feq (by decide : ¬ ((1 : Int32) = (0 : Int32)))).2) (by decide) (by decide) (XS.iloadN X0.here hx rfl (hb hby d1_15) rfl kz))) ?_
  show Goes p e below (s₁.setTop (mkF m 16 #[.val (.int k), .val (.int (1 : Int32))] [(.int (1 : Int32))])) _
  refine Goes.by (fun _ kz => XS.iconst X0.here hx rfl (hb hby d1_16) (XS.icmpNo X0.here hx rfl (hb hby d1_17) rfl (teq (by decide : (1 : Int32) = (1 : Int32))).2 kz)) ?_
  obtain ⟨T6, X6, e6, st6⟩ := getS2 X0 hx hZ hown (host := "") (Or.inl (hw _ (List.mem_of_getElem? (i := 13) rfl))) Via.refl e0 P.2.2.2.2.1 (g := (mkF m 20 #[.val (.int k), .val (.int (1 : Int32))] [])) rfl (hb hby d1_20)
  refine Goes.by st6 ?_
  show Goes p e below (T6.setTop (mkF m 23 #[.val (.int k), .val (.int (1 : Int32))] [(.ref (w 2))])) _
  obtain ⟨fs, hr, hrun, hended, hW, hsame⟩ := X6.leave (v := some (.ref (w 2))) (fun h => by rw [Bd.returns] at h; cases h)
  exact ⟨_, _, retOut X6 hx (t := (.object "com/example/nextkey/nextkey/table/Collation")) Bd.returns rfl (Or.inr (Or.inr (Or.inr (Or.inr ⟨rfl, rfl, rfl⟩)))) (hb hby d1_23) hr, hrun, hended, _, _, rfl, ⟨rfl, N0, e6⟩, ⟨_, rfl⟩, hW, hsame.mono (by decide) (by decide)⟩
set_option maxRecDepth 65536 in
set_option maxHeartbeats 40000000 in
theorem r2_3 (l : Launch) (Z : State) (a0 : Array Value) (hw : ∀ d ∈ tables_1, d.before a0 Z = true) (ws : List Jvm.Cond) (h0 : Heap) (n0 : Nat) (Z0 : n0 ≤ h0.size) (w : Nat → Addr) (P : Pins Z h0 w) :
    MetFree l (⟨"com/example/nextkey/nextkey/table/Collation", "common", "(Lcom/example/nextkey/nextkey/table/Collation;Lcom/example/nextkey/nextkey/table/Collation;)Lcom/example/nextkey/nextkey/table/Collation;"⟩ : MethodName) (head1 (Jvm.Cond.code (⟨"com/example/nextkey/nextkey/table/Collation", "common", "(Lcom/example/nextkey/nextkey/table/Collation;Lcom/example/nextkey/nextkey/table/Collation;)Lcom/example/nextkey/nextkey/table/Collation;"⟩ : MethodName) prog_66_method_6_code 3 (some (.object "com/example/nextkey/nextkey/table/Collation")) :: ws) ({ frames := 0, cells := 0, slots := 0, locals := 0 } : Room)) (fun a U => a = #[(.ref (w 0)), (.ref (w 2))] ∧ Z.Warmed39 U.vm ∧ U.heap = h0) (fun _ _ _ _ _ => True) (fun _ U o U' => ∃ v L, o = .returned v ∧ QP (some (.ref (w 2))) h0 n0 v U'.heap L ∧ FrameEnd U o U' L ({ frames := 0, cells := 0, slots := 0, locals := 0 } : Room).cells ({ frames := 0, cells := 0, slots := 0, locals := 0 } : Room).slots) := by
  refine MetFree.of_bodySF (plainFor_of_name pn1) hisR ?_
  intro p e s m args below meth c s₁ Bd hml0 hP hK
  obtain ⟨rfl, hZ, hh⟩ := hP
  have hx := Bd.exec
  have hby := Bd.bytes
  have hml : c.maxLocals = 3 := hml0
  have hown : s.vm.findClass "com/example/nextkey/nextkey/table/Collation" = some m.cls := findClass_of_methodNamed Bd.named
  have hnm := (name_of_methodNamed Bd.named Bd.method).1
  have X0 : Stand p l e ({ frames := 0, cells := 0, slots := 0, locals := 0 } : Room) s m #[(.ref (w 0)), (.ref (w 2))] below meth c s₁ [] 0 0 := Stand.of_body Bd
  have e0 : s₁.heap = h0 := by rw [← hh, Bd.state]; rfl
  have N0 := Fr.nil n0
  refine Goes.out (Goes.by (fun tz kz => castTop (ef2_RR m ((w 0)) ((w 2))) kz) ?_)
  show Goes p e below (s₁.setTop (mkF m 0 #[.val (.ref (w 0)), .val (.ref (w 2)), .unset] [])) _
  refine Goes.by (fun _ kz => XS.aloadN X0.here hx rfl (hb hby d2_0) rfl rfl (XS.aloadN X0.here hx rfl (hb hby d2_1) rfl rfl (Jvm.RoadKit.acmp (g := (mkF m 2 #[.val (.ref (w 0)), .val (.ref (w 2)), .unset] [(.ref (w 2)), (.ref (w 0))])) X0 hx rfl rfl rfl (pc0 := 2) (pc' := 5) (same := false) rfl (hb hby d2_2) rfl (decide_eq_false fun q => (Ne.symm (own_ne_2_0 P)) (Value.ref.inj q)) (by decide) (by decide) kz))) ?_
  show Goes p e below (s₁.setTop (mkF m 5 #[.val (.ref (w 0)), .val (.ref (w 2)), .unset] [])) _
  refine Goes.by (fun _ kz => XS.aloadN X0.here hx rfl (hb hby d2_5) rfl rfl kz) ?_
  obtain ⟨T9, X9, e9, st9⟩ := getF X0 hx hZ hown (host := "") (Or.inl (hw _ (List.mem_of_getElem? (i := 15) rfl))) Via.refl e0 P.2.2.2.2.2.2.2.2.2.1 (g := (mkF m 6 #[.val (.ref (w 0)), .val (.ref (w 2)), .unset] [(.ref (w 2))])) rfl rfl (hb hby d2_6)
  refine Goes.by st9 ?_
  refine Goes.by (fun _ kz => XS.ifYes X9.here hx rfl (pc0 := 9) (pc' := 17) rfl (hb hby d2_9) rfl ((if0 _ _).trans (feq (by decide : ¬ ((1 : Int32) = (0 : Int32)))).2) (by decide) (by decide) (XS.aloadN X9.here hx rfl (hb hby d2_17) rfl rfl kz)) ?_
  obtain ⟨T10, X10, e10, st10⟩ := getF X9 hx hZ hown (host := "") (Or.inl (hw _ (List.mem_of_getElem? (i := 15) rfl))) Via.refl e9 P.2.2.2.2.2.2.2.2.2.2.2 (g := (mkF m 18 #[.val (.ref (w 0)), .val (.ref (w 2)), .unset] [(.ref (w 0))])) rfl rfl (hb hby d2_18)
  refine Goes.by st10 ?_
  refine Goes.by (fun _ kz => XS.ifNo X10.here hx rfl (hb hby d2_21) rfl ((if0 _ _).trans (teq (by decide : (0 : Int32) = (0 : Int32))).2) (XS.aloadN X10.here hx rfl (hb hby d2_24) rfl rfl (XS.astoreN X10.here hx rfl (hb hby d2_25) rfl rfl (l' := #[.val (.ref (w 0)), .val (.ref (w 2)), .val (.ref (w 2))]) rfl kz))) ?_
  show Goes p e below (T10.setTop (mkF m 26 #[.val (.ref (w 0)), .val (.ref (w 2)), .val (.ref (w 2))] [])) _
  refine Goes.by (fun _ kz => XS.goto X10.here hx rfl (pc0 := 26) (pc' := 31) rfl (hb hby d2_26) (by decide) (by decide) (XS.aloadN X10.here hx rfl (hb hby d2_31) rfl rfl kz)) ?_
  show Goes p e below (T10.setTop (mkF m 32 #[.val (.ref (w 0)), .val (.ref (w 2)), .val (.ref (w 2))] [(.ref (w 2))])) _
  obtain ⟨fs, hr, hrun, hended, hW, hsame⟩ := X10.leave (v := some (.ref (w 2))) (fun h => by rw [Bd.returns] at h; cases h)
  exact ⟨_, _, retOut X10 hx (t := (.object "com/example/nextkey/nextkey/table/Collation")) Bd.returns rfl (Or.inr (Or.inr (Or.inr (Or.inr ⟨rfl, rfl, rfl⟩)))) (hb hby d2_32) hr, hrun, hended, _, _, rfl, ⟨rfl, N0, e10⟩, ⟨_, rfl⟩, hW, hsame.mono (by decide) (by decide)⟩
set_option maxRecDepth 65536 in
set_option maxHeartbeats 40000000 in
theorem r1_2 (l : Launch) (Z : State) (a0 : Array Value) (hw : ∀ d ∈ tables_1, d.before a0 Z = true) (ws : List Jvm.Cond) (h0 : Heap) (n0 : Nat) (Z0 : n0 ≤ h0.size) (k : Int32) (w : Nat → Addr) (hk : ((k &&& (2147483647 : Int32)) % (3 : Int32)) = (2 : Int32)) (P : Pins Z h0 w) :
    MetFree l (⟨"com/example/nextkey/nextkey/table/CollationCommonPinLaw", "pick", "(I)Lcom/example/nextkey/nextkey/table/Collation;"⟩ : MethodName) (head1 (Jvm.Cond.code (⟨"com/example/nextkey/nextkey/table/CollationCommonPinLaw", "pick", "(I)Lcom/example/nextkey/nextkey/table/Collation;"⟩ : MethodName) method_2_code 2 (some (.object "com/example/nextkey/nextkey/table/Collation")) :: ws) ({ frames := 0, cells := 0, slots := 0, locals := 0 } : Room)) (fun a U => a = #[(.int k)] ∧ Z.Warmed39 U.vm ∧ U.heap = h0) (fun _ _ _ _ _ => True) (fun _ U o U' => ∃ v L, o = .returned v ∧ QP (some (.ref (w 1))) h0 n0 v U'.heap L ∧ FrameEnd U o U' L ({ frames := 0, cells := 0, slots := 0, locals := 0 } : Room).cells ({ frames := 0, cells := 0, slots := 0, locals := 0 } : Room).slots) := by
  refine MetFree.of_bodySF (plainFor_of_name pn0) hisR ?_
  intro p e s m args below meth c s₁ Bd hml0 hP hK
  obtain ⟨rfl, hZ, hh⟩ := hP
  have hx := Bd.exec
  have hby := Bd.bytes
  have hml : c.maxLocals = 2 := hml0
  have hown : s.vm.findClass "com/example/nextkey/nextkey/table/CollationCommonPinLaw" = some m.cls := findClass_of_methodNamed Bd.named
  have hnm := (name_of_methodNamed Bd.named Bd.method).1
  have X0 : Stand p l e ({ frames := 0, cells := 0, slots := 0, locals := 0 } : Room) s m #[(.int k)] below meth c s₁ [] 0 0 := Stand.of_body Bd
  have e0 : s₁.heap = h0 := by rw [← hh, Bd.state]; rfl
  have N0 := Fr.nil n0
  refine Goes.out (Goes.by (fun tz kz => castTop (ef1_I m k) kz) ?_)
  show Goes p e below (s₁.setTop (mkF m 0 #[.val (.int k), .unset] [])) _
  refine Goes.by (fun _ kz => XS.iloadN X0.here hx rfl (hb hby d1_0) rfl (X0.ldcInt hx hown (mvT hZ (hw _ (List.mem_of_getElem? (i := 4) rfl))) (g := (mkF m 1 #[.val (.int k), .unset] [(.int k)])) rfl (hb hby d1_1) _ (XS.iand X0.here hx rfl (hb hby d1_3) rfl kz))) ?_
  show Goes p e below (s₁.setTop (mkF m 4 #[.val (.int k), .unset] [(.int (k &&& (2147483647 : Int32)))])) _
  refine Goes.by (fun _ kz => XS.iconst X0.here hx rfl (hb hby d1_4) (iremM X0 hx rfl (hb hby d1_5) rfl (by decide) (XS.istoreN X0.here hx rfl (hb hby d1_6) rfl (l' := #[.val (.int k), .val (.int ((k &&& (2147483647 : Int32)) % (3 : Int32)))]) rfl kz))) ?_
  show Goes p e below (s₁.setTop (mkF m 7 #[.val (.int k), .val (.int ((k &&& (2147483647 : Int32)) % (3 : Int32)))] [])) _
  rw [hk]
  show Goes p e below (s₁.setTop (mkF m 7 #[.val (.int k), .val (.int (2 : Int32))] [])) _
  refine Goes.by (fun _ kz => XS.iloadN X0.here hx rfl (hb hby d1_7) rfl (XS.ifYes X0.here hx rfl (pc0 := 8) (pc' := 15) rfl (hb hby d1_8) rfl ((if0 _ _).trans (feq (by decide : ¬ ((2 : Int32) = (0 : Int32)))).2) (by decide) (by decide) (XS.iloadN X0.here hx rfl (hb hby d1_15) rfl kz))) ?_
  show Goes p e below (s₁.setTop (mkF m 16 #[.val (.int k), .val (.int (2 : Int32))] [(.int (2 : Int32))])) _
  refine Goes.by (fun _ kz => XS.iconst X0.here hx rfl (hb hby d1_16) (XS.icmpYes X0.here hx rfl (pc0 := 17) (pc' := 24) rfl (hb hby d1_17) rfl (feq (by decide : ¬ ((2 : Int32) = (1 : Int32)))).2 (by decide) (by decide) kz)) ?_
  obtain ⟨T13, X13, e13, st13⟩ := getS2 X0 hx hZ hown (host := "") (Or.inl (hw _ (List.mem_of_getElem? (i := 11) rfl))) Via.refl e0 P.2.2.1 (g := (mkF m 24 #[.val (.int k), .val (.int (2 : Int32))] [])) rfl (hb hby d1_24)
  refine Goes.by st13 ?_
  show Goes p e below (T13.setTop (mkF m 27 #[.val (.int k), .val (.int (2 : Int32))] [(.ref (w 1))])) _
  obtain ⟨fs, hr, hrun, hended, hW, hsame⟩ := X13.leave (v := some (.ref (w 1))) (fun h => by rw [Bd.returns] at h; cases h)
  exact ⟨_, _, retOut X13 hx (t := (.object "com/example/nextkey/nextkey/table/Collation")) Bd.returns rfl (Or.inr (Or.inr (Or.inr (Or.inr ⟨rfl, rfl, rfl⟩)))) (hb hby d1_27) hr, hrun, hended, _, _, rfl, ⟨rfl, N0, e13⟩, ⟨_, rfl⟩, hW, hsame.mono (by decide) (by decide)⟩
set_option maxRecDepth 65536 in
set_option maxHeartbeats 40000000 in
theorem r2_5 (l : Launch) (Z : State) (a0 : Array Value) (hw : ∀ d ∈ tables_1, d.before a0 Z = true) (ws : List Jvm.Cond) (h0 : Heap) (n0 : Nat) (Z0 : n0 ≤ h0.size) (w : Nat → Addr) (P : Pins Z h0 w) :
    MetFree l (⟨"com/example/nextkey/nextkey/table/Collation", "common", "(Lcom/example/nextkey/nextkey/table/Collation;Lcom/example/nextkey/nextkey/table/Collation;)Lcom/example/nextkey/nextkey/table/Collation;"⟩ : MethodName) (head1 (Jvm.Cond.code (⟨"com/example/nextkey/nextkey/table/Collation", "common", "(Lcom/example/nextkey/nextkey/table/Collation;Lcom/example/nextkey/nextkey/table/Collation;)Lcom/example/nextkey/nextkey/table/Collation;"⟩ : MethodName) prog_66_method_6_code 3 (some (.object "com/example/nextkey/nextkey/table/Collation")) :: ws) ({ frames := 0, cells := 0, slots := 0, locals := 0 } : Room)) (fun a U => a = #[(.ref (w 0)), (.ref (w 1))] ∧ Z.Warmed39 U.vm ∧ U.heap = h0) (fun _ _ _ _ _ => True) (fun _ U o U' => ∃ v L, o = .returned v ∧ QP (some (.ref (w 1))) h0 n0 v U'.heap L ∧ FrameEnd U o U' L ({ frames := 0, cells := 0, slots := 0, locals := 0 } : Room).cells ({ frames := 0, cells := 0, slots := 0, locals := 0 } : Room).slots) := by
  refine MetFree.of_bodySF (plainFor_of_name pn1) hisR ?_
  intro p e s m args below meth c s₁ Bd hml0 hP hK
  obtain ⟨rfl, hZ, hh⟩ := hP
  have hx := Bd.exec
  have hby := Bd.bytes
  have hml : c.maxLocals = 3 := hml0
  have hown : s.vm.findClass "com/example/nextkey/nextkey/table/Collation" = some m.cls := findClass_of_methodNamed Bd.named
  have hnm := (name_of_methodNamed Bd.named Bd.method).1
  have X0 : Stand p l e ({ frames := 0, cells := 0, slots := 0, locals := 0 } : Room) s m #[(.ref (w 0)), (.ref (w 1))] below meth c s₁ [] 0 0 := Stand.of_body Bd
  have e0 : s₁.heap = h0 := by rw [← hh, Bd.state]; rfl
  have N0 := Fr.nil n0
  refine Goes.out (Goes.by (fun tz kz => castTop (ef2_RR m ((w 0)) ((w 1))) kz) ?_)
  show Goes p e below (s₁.setTop (mkF m 0 #[.val (.ref (w 0)), .val (.ref (w 1)), .unset] [])) _
  refine Goes.by (fun _ kz => XS.aloadN X0.here hx rfl (hb hby d2_0) rfl rfl (XS.aloadN X0.here hx rfl (hb hby d2_1) rfl rfl (Jvm.RoadKit.acmp (g := (mkF m 2 #[.val (.ref (w 0)), .val (.ref (w 1)), .unset] [(.ref (w 1)), (.ref (w 0))])) X0 hx rfl rfl rfl (pc0 := 2) (pc' := 5) (same := false) rfl (hb hby d2_2) rfl (decide_eq_false fun q => (Ne.symm (own_ne_1_0 P)) (Value.ref.inj q)) (by decide) (by decide) kz))) ?_
  show Goes p e below (s₁.setTop (mkF m 5 #[.val (.ref (w 0)), .val (.ref (w 1)), .unset] [])) _
  refine Goes.by (fun _ kz => XS.aloadN X0.here hx rfl (hb hby d2_5) rfl rfl kz) ?_
  obtain ⟨T16, X16, e16, st16⟩ := getF X0 hx hZ hown (host := "") (Or.inl (hw _ (List.mem_of_getElem? (i := 15) rfl))) Via.refl e0 P.2.2.2.2.2.2.2.2.2.2.1 (g := (mkF m 6 #[.val (.ref (w 0)), .val (.ref (w 1)), .unset] [(.ref (w 1))])) rfl rfl (hb hby d2_6)
  refine Goes.by st16 ?_
  refine Goes.by (fun _ kz => XS.ifYes X16.here hx rfl (pc0 := 9) (pc' := 17) rfl (hb hby d2_9) rfl ((if0 _ _).trans (feq (by decide : ¬ ((1 : Int32) = (0 : Int32)))).2) (by decide) (by decide) (XS.aloadN X16.here hx rfl (hb hby d2_17) rfl rfl kz)) ?_
  obtain ⟨T17, X17, e17, st17⟩ := getF X16 hx hZ hown (host := "") (Or.inl (hw _ (List.mem_of_getElem? (i := 15) rfl))) Via.refl e16 P.2.2.2.2.2.2.2.2.2.2.2 (g := (mkF m 18 #[.val (.ref (w 0)), .val (.ref (w 1)), .unset] [(.ref (w 0))])) rfl rfl (hb hby d2_18)
  refine Goes.by st17 ?_
  refine Goes.by (fun _ kz => XS.ifNo X17.here hx rfl (hb hby d2_21) rfl ((if0 _ _).trans (teq (by decide : (0 : Int32) = (0 : Int32))).2) (XS.aloadN X17.here hx rfl (hb hby d2_24) rfl rfl (XS.astoreN X17.here hx rfl (hb hby d2_25) rfl rfl (l' := #[.val (.ref (w 0)), .val (.ref (w 1)), .val (.ref (w 1))]) rfl kz))) ?_
  show Goes p e below (T17.setTop (mkF m 26 #[.val (.ref (w 0)), .val (.ref (w 1)), .val (.ref (w 1))] [])) _
  refine Goes.by (fun _ kz => XS.goto X17.here hx rfl (pc0 := 26) (pc' := 31) rfl (hb hby d2_26) (by decide) (by decide) (XS.aloadN X17.here hx rfl (hb hby d2_31) rfl rfl kz)) ?_
  show Goes p e below (T17.setTop (mkF m 32 #[.val (.ref (w 0)), .val (.ref (w 1)), .val (.ref (w 1))] [(.ref (w 1))])) _
  obtain ⟨fs, hr, hrun, hended, hW, hsame⟩ := X17.leave (v := some (.ref (w 1))) (fun h => by rw [Bd.returns] at h; cases h)
  exact ⟨_, _, retOut X17 hx (t := (.object "com/example/nextkey/nextkey/table/Collation")) Bd.returns rfl (Or.inr (Or.inr (Or.inr (Or.inr ⟨rfl, rfl, rfl⟩)))) (hb hby d2_32) hr, hrun, hended, _, _, rfl, ⟨rfl, N0, e17⟩, ⟨_, rfl⟩, hW, hsame.mono (by decide) (by decide)⟩
set_option maxRecDepth 65536 in
set_option maxHeartbeats 40000000 in
theorem r2_6 (l : Launch) (Z : State) (a0 : Array Value) (hw : ∀ d ∈ tables_1, d.before a0 Z = true) (ws : List Jvm.Cond) (h0 : Heap) (n0 : Nat) (Z0 : n0 ≤ h0.size) (w : Nat → Addr) (P : Pins Z h0 w) :
    MetFree l (⟨"com/example/nextkey/nextkey/table/Collation", "common", "(Lcom/example/nextkey/nextkey/table/Collation;Lcom/example/nextkey/nextkey/table/Collation;)Lcom/example/nextkey/nextkey/table/Collation;"⟩ : MethodName) (head1 (Jvm.Cond.code (⟨"com/example/nextkey/nextkey/table/Collation", "common", "(Lcom/example/nextkey/nextkey/table/Collation;Lcom/example/nextkey/nextkey/table/Collation;)Lcom/example/nextkey/nextkey/table/Collation;"⟩ : MethodName) prog_66_method_6_code 3 (some (.object "com/example/nextkey/nextkey/table/Collation")) :: ws) ({ frames := 0, cells := 0, slots := 0, locals := 0 } : Room)) (fun a U => a = #[(.ref (w 2)), (.ref (w 0))] ∧ Z.Warmed39 U.vm ∧ U.heap = h0) (fun _ _ _ _ _ => True) (fun _ U o U' => ∃ v L, o = .returned v ∧ QP (some (.ref (w 2))) h0 n0 v U'.heap L ∧ FrameEnd U o U' L ({ frames := 0, cells := 0, slots := 0, locals := 0 } : Room).cells ({ frames := 0, cells := 0, slots := 0, locals := 0 } : Room).slots) := by
  refine MetFree.of_bodySF (plainFor_of_name pn1) hisR ?_
  intro p e s m args below meth c s₁ Bd hml0 hP hK
  obtain ⟨rfl, hZ, hh⟩ := hP
  have hx := Bd.exec
  have hby := Bd.bytes
  have hml : c.maxLocals = 3 := hml0
  have hown : s.vm.findClass "com/example/nextkey/nextkey/table/Collation" = some m.cls := findClass_of_methodNamed Bd.named
  have hnm := (name_of_methodNamed Bd.named Bd.method).1
  have X0 : Stand p l e ({ frames := 0, cells := 0, slots := 0, locals := 0 } : Room) s m #[(.ref (w 2)), (.ref (w 0))] below meth c s₁ [] 0 0 := Stand.of_body Bd
  have e0 : s₁.heap = h0 := by rw [← hh, Bd.state]; rfl
  have N0 := Fr.nil n0
  refine Goes.out (Goes.by (fun tz kz => castTop (ef2_RR m ((w 2)) ((w 0))) kz) ?_)
  show Goes p e below (s₁.setTop (mkF m 0 #[.val (.ref (w 2)), .val (.ref (w 0)), .unset] [])) _
  refine Goes.by (fun _ kz => XS.aloadN X0.here hx rfl (hb hby d2_0) rfl rfl (XS.aloadN X0.here hx rfl (hb hby d2_1) rfl rfl (Jvm.RoadKit.acmp (g := (mkF m 2 #[.val (.ref (w 2)), .val (.ref (w 0)), .unset] [(.ref (w 0)), (.ref (w 2))])) X0 hx rfl rfl rfl (pc0 := 2) (pc' := 5) (same := false) rfl (hb hby d2_2) rfl (decide_eq_false fun q => (own_ne_2_0 P) (Value.ref.inj q)) (by decide) (by decide) kz))) ?_
  show Goes p e below (s₁.setTop (mkF m 5 #[.val (.ref (w 2)), .val (.ref (w 0)), .unset] [])) _
  refine Goes.by (fun _ kz => XS.aloadN X0.here hx rfl (hb hby d2_5) rfl rfl kz) ?_
  obtain ⟨T23, X23, e23, st23⟩ := getF X0 hx hZ hown (host := "") (Or.inl (hw _ (List.mem_of_getElem? (i := 15) rfl))) Via.refl e0 P.2.2.2.2.2.2.2.2.2.2.2 (g := (mkF m 6 #[.val (.ref (w 2)), .val (.ref (w 0)), .unset] [(.ref (w 0))])) rfl rfl (hb hby d2_6)
  refine Goes.by st23 ?_
  refine Goes.by (fun _ kz => XS.ifNo X23.here hx rfl (hb hby d2_9) rfl ((if0 _ _).trans (teq (by decide : (0 : Int32) = (0 : Int32))).2) (XS.aloadN X23.here hx rfl (hb hby d2_12) rfl rfl (XS.astoreN X23.here hx rfl (hb hby d2_13) rfl rfl (l' := #[.val (.ref (w 2)), .val (.ref (w 0)), .val (.ref (w 2))]) rfl kz))) ?_
  show Goes p e below (T23.setTop (mkF m 14 #[.val (.ref (w 2)), .val (.ref (w 0)), .val (.ref (w 2))] [])) _
  refine Goes.by (fun _ kz => XS.goto X23.here hx rfl (pc0 := 14) (pc' := 31) rfl (hb hby d2_14) (by decide) (by decide) (XS.aloadN X23.here hx rfl (hb hby d2_31) rfl rfl kz)) ?_
  show Goes p e below (T23.setTop (mkF m 32 #[.val (.ref (w 2)), .val (.ref (w 0)), .val (.ref (w 2))] [(.ref (w 2))])) _
  obtain ⟨fs, hr, hrun, hended, hW, hsame⟩ := X23.leave (v := some (.ref (w 2))) (fun h => by rw [Bd.returns] at h; cases h)
  exact ⟨_, _, retOut X23 hx (t := (.object "com/example/nextkey/nextkey/table/Collation")) Bd.returns rfl (Or.inr (Or.inr (Or.inr (Or.inr ⟨rfl, rfl, rfl⟩)))) (hb hby d2_32) hr, hrun, hended, _, _, rfl, ⟨rfl, N0, e23⟩, ⟨_, rfl⟩, hW, hsame.mono (by decide) (by decide)⟩
set_option maxRecDepth 65536 in
set_option maxHeartbeats 40000000 in
theorem r2_7 (l : Launch) (Z : State) (a0 : Array Value) (hw : ∀ d ∈ tables_1, d.before a0 Z = true) (ws : List Jvm.Cond) (h0 : Heap) (n0 : Nat) (Z0 : n0 ≤ h0.size) (w : Nat → Addr) (P : Pins Z h0 w) :
    MetFree l (⟨"com/example/nextkey/nextkey/table/Collation", "common", "(Lcom/example/nextkey/nextkey/table/Collation;Lcom/example/nextkey/nextkey/table/Collation;)Lcom/example/nextkey/nextkey/table/Collation;"⟩ : MethodName) (head1 (Jvm.Cond.code (⟨"com/example/nextkey/nextkey/table/Collation", "common", "(Lcom/example/nextkey/nextkey/table/Collation;Lcom/example/nextkey/nextkey/table/Collation;)Lcom/example/nextkey/nextkey/table/Collation;"⟩ : MethodName) prog_66_method_6_code 3 (some (.object "com/example/nextkey/nextkey/table/Collation")) :: ws) ({ frames := 0, cells := 0, slots := 0, locals := 0 } : Room)) (fun a U => a = #[(.ref (w 2)), (.ref (w 2))] ∧ Z.Warmed39 U.vm ∧ U.heap = h0) (fun _ _ _ _ _ => True) (fun _ U o U' => ∃ v L, o = .returned v ∧ QP (some (.ref (w 2))) h0 n0 v U'.heap L ∧ FrameEnd U o U' L ({ frames := 0, cells := 0, slots := 0, locals := 0 } : Room).cells ({ frames := 0, cells := 0, slots := 0, locals := 0 } : Room).slots) := by
  refine MetFree.of_bodySF (plainFor_of_name pn1) hisR ?_
  intro p e s m args below meth c s₁ Bd hml0 hP hK
  obtain ⟨rfl, hZ, hh⟩ := hP
  have hx := Bd.exec
  have hby := Bd.bytes
  have hml : c.maxLocals = 3 := hml0
  have hown : s.vm.findClass "com/example/nextkey/nextkey/table/Collation" = some m.cls := findClass_of_methodNamed Bd.named
  have hnm := (name_of_methodNamed Bd.named Bd.method).1
  have X0 : Stand p l e ({ frames := 0, cells := 0, slots := 0, locals := 0 } : Room) s m #[(.ref (w 2)), (.ref (w 2))] below meth c s₁ [] 0 0 := Stand.of_body Bd
  have e0 : s₁.heap = h0 := by rw [← hh, Bd.state]; rfl
  have N0 := Fr.nil n0
  refine Goes.out (Goes.by (fun tz kz => castTop (ef2_RR m ((w 2)) ((w 2))) kz) ?_)
  show Goes p e below (s₁.setTop (mkF m 0 #[.val (.ref (w 2)), .val (.ref (w 2)), .unset] [])) _
  refine Goes.by (fun _ kz => XS.aloadN X0.here hx rfl (hb hby d2_0) rfl rfl (XS.aloadN X0.here hx rfl (hb hby d2_1) rfl rfl (Jvm.RoadKit.acmp (g := (mkF m 2 #[.val (.ref (w 2)), .val (.ref (w 2)), .unset] [(.ref (w 2)), (.ref (w 2))])) X0 hx rfl rfl rfl (pc0 := 2) (pc' := 12) (same := true) rfl (hb hby d2_2) rfl (decide_eq_true rfl) (by decide) (by decide) kz))) ?_
  show Goes p e below (s₁.setTop (mkF m 12 #[.val (.ref (w 2)), .val (.ref (w 2)), .unset] [])) _
  refine Goes.by (fun _ kz => XS.aloadN X0.here hx rfl (hb hby d2_12) rfl rfl (XS.astoreN X0.here hx rfl (hb hby d2_13) rfl rfl (l' := #[.val (.ref (w 2)), .val (.ref (w 2)), .val (.ref (w 2))]) rfl (XS.goto X0.here hx rfl (pc0 := 14) (pc' := 31) rfl (hb hby d2_14) (by decide) (by decide) kz))) ?_
  show Goes p e below (s₁.setTop (mkF m 31 #[.val (.ref (w 2)), .val (.ref (w 2)), .val (.ref (w 2))] [])) _
  refine Goes.by (fun _ kz => XS.aloadN X0.here hx rfl (hb hby d2_31) rfl rfl kz) ?_
  show Goes p e below (s₁.setTop (mkF m 32 #[.val (.ref (w 2)), .val (.ref (w 2)), .val (.ref (w 2))] [(.ref (w 2))])) _
  obtain ⟨fs, hr, hrun, hended, hW, hsame⟩ := X0.leave (v := some (.ref (w 2))) (fun h => by rw [Bd.returns] at h; cases h)
  exact ⟨_, _, retOut X0 hx (t := (.object "com/example/nextkey/nextkey/table/Collation")) Bd.returns rfl (Or.inr (Or.inr (Or.inr (Or.inr ⟨rfl, rfl, rfl⟩)))) (hb hby d2_32) hr, hrun, hended, _, _, rfl, ⟨rfl, N0, e0⟩, ⟨_, rfl⟩, hW, hsame.mono (by decide) (by decide)⟩
set_option maxRecDepth 65536 in
set_option maxHeartbeats 40000000 in
theorem r2_8 (l : Launch) (Z : State) (a0 : Array Value) (hw : ∀ d ∈ tables_1, d.before a0 Z = true) (ws : List Jvm.Cond) (h0 : Heap) (n0 : Nat) (Z0 : n0 ≤ h0.size) (w : Nat → Addr) (P : Pins Z h0 w) :
    MetFree l (⟨"com/example/nextkey/nextkey/table/Collation", "common", "(Lcom/example/nextkey/nextkey/table/Collation;Lcom/example/nextkey/nextkey/table/Collation;)Lcom/example/nextkey/nextkey/table/Collation;"⟩ : MethodName) (head1 (Jvm.Cond.code (⟨"com/example/nextkey/nextkey/table/Collation", "common", "(Lcom/example/nextkey/nextkey/table/Collation;Lcom/example/nextkey/nextkey/table/Collation;)Lcom/example/nextkey/nextkey/table/Collation;"⟩ : MethodName) prog_66_method_6_code 3 (some (.object "com/example/nextkey/nextkey/table/Collation")) :: ws) ({ frames := 0, cells := 0, slots := 0, locals := 0 } : Room)) (fun a U => a = #[(.ref (w 2)), (.ref (w 1))] ∧ Z.Warmed39 U.vm ∧ U.heap = h0) (fun _ _ _ _ _ => True) (fun _ U o U' => ∃ v L, o = .returned v ∧ QP (some .null) h0 n0 v U'.heap L ∧ FrameEnd U o U' L ({ frames := 0, cells := 0, slots := 0, locals := 0 } : Room).cells ({ frames := 0, cells := 0, slots := 0, locals := 0 } : Room).slots) := by
  refine MetFree.of_bodySF (plainFor_of_name pn1) hisR ?_
  intro p e s m args below meth c s₁ Bd hml0 hP hK
  obtain ⟨rfl, hZ, hh⟩ := hP
  have hx := Bd.exec
  have hby := Bd.bytes
  have hml : c.maxLocals = 3 := hml0
  have hown : s.vm.findClass "com/example/nextkey/nextkey/table/Collation" = some m.cls := findClass_of_methodNamed Bd.named
  have hnm := (name_of_methodNamed Bd.named Bd.method).1
  have X0 : Stand p l e ({ frames := 0, cells := 0, slots := 0, locals := 0 } : Room) s m #[(.ref (w 2)), (.ref (w 1))] below meth c s₁ [] 0 0 := Stand.of_body Bd
  have e0 : s₁.heap = h0 := by rw [← hh, Bd.state]; rfl
  have N0 := Fr.nil n0
  refine Goes.out (Goes.by (fun tz kz => castTop (ef2_RR m ((w 2)) ((w 1))) kz) ?_)
  show Goes p e below (s₁.setTop (mkF m 0 #[.val (.ref (w 2)), .val (.ref (w 1)), .unset] [])) _
  refine Goes.by (fun _ kz => XS.aloadN X0.here hx rfl (hb hby d2_0) rfl rfl (XS.aloadN X0.here hx rfl (hb hby d2_1) rfl rfl (Jvm.RoadKit.acmp (g := (mkF m 2 #[.val (.ref (w 2)), .val (.ref (w 1)), .unset] [(.ref (w 1)), (.ref (w 2))])) X0 hx rfl rfl rfl (pc0 := 2) (pc' := 5) (same := false) rfl (hb hby d2_2) rfl (decide_eq_false fun q => (Ne.symm (own_ne_1_2 P)) (Value.ref.inj q)) (by decide) (by decide) kz))) ?_
  show Goes p e below (s₁.setTop (mkF m 5 #[.val (.ref (w 2)), .val (.ref (w 1)), .unset] [])) _
  refine Goes.by (fun _ kz => XS.aloadN X0.here hx rfl (hb hby d2_5) rfl rfl kz) ?_
  obtain ⟨T32, X32, e32, st32⟩ := getF X0 hx hZ hown (host := "") (Or.inl (hw _ (List.mem_of_getElem? (i := 15) rfl))) Via.refl e0 P.2.2.2.2.2.2.2.2.2.2.1 (g := (mkF m 6 #[.val (.ref (w 2)), .val (.ref (w 1)), .unset] [(.ref (w 1))])) rfl rfl (hb hby d2_6)
  refine Goes.by st32 ?_
  refine Goes.by (fun _ kz => XS.ifYes X32.here hx rfl (pc0 := 9) (pc' := 17) rfl (hb hby d2_9) rfl ((if0 _ _).trans (feq (by decide : ¬ ((1 : Int32) = (0 : Int32)))).2) (by decide) (by decide) (XS.aloadN X32.here hx rfl (hb hby d2_17) rfl rfl kz)) ?_
  obtain ⟨T33, X33, e33, st33⟩ := getF X32 hx hZ hown (host := "") (Or.inl (hw _ (List.mem_of_getElem? (i := 15) rfl))) Via.refl e32 P.2.2.2.2.2.2.2.2.2.1 (g := (mkF m 18 #[.val (.ref (w 2)), .val (.ref (w 1)), .unset] [(.ref (w 2))])) rfl rfl (hb hby d2_18)
  refine Goes.by st33 ?_
  refine Goes.by (fun _ kz => XS.ifYes X33.here hx rfl (pc0 := 21) (pc' := 29) rfl (hb hby d2_21) rfl ((if0 _ _).trans (feq (by decide : ¬ ((1 : Int32) = (0 : Int32)))).2) (by decide) (by decide) (XS.aconstNull X33.here hx rfl (hb hby d2_29) (XS.astoreN X33.here hx rfl (hb hby d2_30) rfl rfl (l' := #[.val (.ref (w 2)), .val (.ref (w 1)), .val .null]) rfl kz))) ?_
  show Goes p e below (T33.setTop (mkF m 31 #[.val (.ref (w 2)), .val (.ref (w 1)), .val .null] [])) _
  refine Goes.by (fun _ kz => XS.aloadN X33.here hx rfl (hb hby d2_31) rfl rfl kz) ?_
  show Goes p e below (T33.setTop (mkF m 32 #[.val (.ref (w 2)), .val (.ref (w 1)), .val .null] [.null])) _
  obtain ⟨fs, hr, hrun, hended, hW, hsame⟩ := X33.leave (v := some .null) (fun h => by rw [Bd.returns] at h; cases h)
  exact ⟨_, _, retOut X33 hx (t := (.object "com/example/nextkey/nextkey/table/Collation")) Bd.returns rfl (Or.inr (Or.inr (Or.inr (Or.inr ⟨rfl, rfl, rfl⟩)))) (hb hby d2_32) hr, hrun, hended, _, _, rfl, ⟨rfl, N0, e33⟩, ⟨_, rfl⟩, hW, hsame.mono (by decide) (by decide)⟩
set_option maxRecDepth 65536 in
set_option maxHeartbeats 40000000 in
theorem r2_9 (l : Launch) (Z : State) (a0 : Array Value) (hw : ∀ d ∈ tables_1, d.before a0 Z = true) (ws : List Jvm.Cond) (h0 : Heap) (n0 : Nat) (Z0 : n0 ≤ h0.size) (w : Nat → Addr) (P : Pins Z h0 w) :
    MetFree l (⟨"com/example/nextkey/nextkey/table/Collation", "common", "(Lcom/example/nextkey/nextkey/table/Collation;Lcom/example/nextkey/nextkey/table/Collation;)Lcom/example/nextkey/nextkey/table/Collation;"⟩ : MethodName) (head1 (Jvm.Cond.code (⟨"com/example/nextkey/nextkey/table/Collation", "common", "(Lcom/example/nextkey/nextkey/table/Collation;Lcom/example/nextkey/nextkey/table/Collation;)Lcom/example/nextkey/nextkey/table/Collation;"⟩ : MethodName) prog_66_method_6_code 3 (some (.object "com/example/nextkey/nextkey/table/Collation")) :: ws) ({ frames := 0, cells := 0, slots := 0, locals := 0 } : Room)) (fun a U => a = #[(.ref (w 1)), (.ref (w 0))] ∧ Z.Warmed39 U.vm ∧ U.heap = h0) (fun _ _ _ _ _ => True) (fun _ U o U' => ∃ v L, o = .returned v ∧ QP (some (.ref (w 1))) h0 n0 v U'.heap L ∧ FrameEnd U o U' L ({ frames := 0, cells := 0, slots := 0, locals := 0 } : Room).cells ({ frames := 0, cells := 0, slots := 0, locals := 0 } : Room).slots) := by
  refine MetFree.of_bodySF (plainFor_of_name pn1) hisR ?_
  intro p e s m args below meth c s₁ Bd hml0 hP hK
  obtain ⟨rfl, hZ, hh⟩ := hP
  have hx := Bd.exec
  have hby := Bd.bytes
  have hml : c.maxLocals = 3 := hml0
  have hown : s.vm.findClass "com/example/nextkey/nextkey/table/Collation" = some m.cls := findClass_of_methodNamed Bd.named
  have hnm := (name_of_methodNamed Bd.named Bd.method).1
  have X0 : Stand p l e ({ frames := 0, cells := 0, slots := 0, locals := 0 } : Room) s m #[(.ref (w 1)), (.ref (w 0))] below meth c s₁ [] 0 0 := Stand.of_body Bd
  have e0 : s₁.heap = h0 := by rw [← hh, Bd.state]; rfl
  have N0 := Fr.nil n0
  refine Goes.out (Goes.by (fun tz kz => castTop (ef2_RR m ((w 1)) ((w 0))) kz) ?_)
  show Goes p e below (s₁.setTop (mkF m 0 #[.val (.ref (w 1)), .val (.ref (w 0)), .unset] [])) _
  refine Goes.by (fun _ kz => XS.aloadN X0.here hx rfl (hb hby d2_0) rfl rfl (XS.aloadN X0.here hx rfl (hb hby d2_1) rfl rfl (Jvm.RoadKit.acmp (g := (mkF m 2 #[.val (.ref (w 1)), .val (.ref (w 0)), .unset] [(.ref (w 0)), (.ref (w 1))])) X0 hx rfl rfl rfl (pc0 := 2) (pc' := 5) (same := false) rfl (hb hby d2_2) rfl (decide_eq_false fun q => (own_ne_1_0 P) (Value.ref.inj q)) (by decide) (by decide) kz))) ?_
  show Goes p e below (s₁.setTop (mkF m 5 #[.val (.ref (w 1)), .val (.ref (w 0)), .unset] [])) _
  refine Goes.by (fun _ kz => XS.aloadN X0.here hx rfl (hb hby d2_5) rfl rfl kz) ?_
  obtain ⟨T39, X39, e39, st39⟩ := getF X0 hx hZ hown (host := "") (Or.inl (hw _ (List.mem_of_getElem? (i := 15) rfl))) Via.refl e0 P.2.2.2.2.2.2.2.2.2.2.2 (g := (mkF m 6 #[.val (.ref (w 1)), .val (.ref (w 0)), .unset] [(.ref (w 0))])) rfl rfl (hb hby d2_6)
  refine Goes.by st39 ?_
  refine Goes.by (fun _ kz => XS.ifNo X39.here hx rfl (hb hby d2_9) rfl ((if0 _ _).trans (teq (by decide : (0 : Int32) = (0 : Int32))).2) (XS.aloadN X39.here hx rfl (hb hby d2_12) rfl rfl (XS.astoreN X39.here hx rfl (hb hby d2_13) rfl rfl (l' := #[.val (.ref (w 1)), .val (.ref (w 0)), .val (.ref (w 1))]) rfl kz))) ?_
  show Goes p e below (T39.setTop (mkF m 14 #[.val (.ref (w 1)), .val (.ref (w 0)), .val (.ref (w 1))] [])) _
  refine Goes.by (fun _ kz => XS.goto X39.here hx rfl (pc0 := 14) (pc' := 31) rfl (hb hby d2_14) (by decide) (by decide) (XS.aloadN X39.here hx rfl (hb hby d2_31) rfl rfl kz)) ?_
  show Goes p e below (T39.setTop (mkF m 32 #[.val (.ref (w 1)), .val (.ref (w 0)), .val (.ref (w 1))] [(.ref (w 1))])) _
  obtain ⟨fs, hr, hrun, hended, hW, hsame⟩ := X39.leave (v := some (.ref (w 1))) (fun h => by rw [Bd.returns] at h; cases h)
  exact ⟨_, _, retOut X39 hx (t := (.object "com/example/nextkey/nextkey/table/Collation")) Bd.returns rfl (Or.inr (Or.inr (Or.inr (Or.inr ⟨rfl, rfl, rfl⟩)))) (hb hby d2_32) hr, hrun, hended, _, _, rfl, ⟨rfl, N0, e39⟩, ⟨_, rfl⟩, hW, hsame.mono (by decide) (by decide)⟩
set_option maxRecDepth 65536 in
set_option maxHeartbeats 40000000 in
theorem r2_10 (l : Launch) (Z : State) (a0 : Array Value) (hw : ∀ d ∈ tables_1, d.before a0 Z = true) (ws : List Jvm.Cond) (h0 : Heap) (n0 : Nat) (Z0 : n0 ≤ h0.size) (w : Nat → Addr) (P : Pins Z h0 w) :
    MetFree l (⟨"com/example/nextkey/nextkey/table/Collation", "common", "(Lcom/example/nextkey/nextkey/table/Collation;Lcom/example/nextkey/nextkey/table/Collation;)Lcom/example/nextkey/nextkey/table/Collation;"⟩ : MethodName) (head1 (Jvm.Cond.code (⟨"com/example/nextkey/nextkey/table/Collation", "common", "(Lcom/example/nextkey/nextkey/table/Collation;Lcom/example/nextkey/nextkey/table/Collation;)Lcom/example/nextkey/nextkey/table/Collation;"⟩ : MethodName) prog_66_method_6_code 3 (some (.object "com/example/nextkey/nextkey/table/Collation")) :: ws) ({ frames := 0, cells := 0, slots := 0, locals := 0 } : Room)) (fun a U => a = #[(.ref (w 1)), (.ref (w 2))] ∧ Z.Warmed39 U.vm ∧ U.heap = h0) (fun _ _ _ _ _ => True) (fun _ U o U' => ∃ v L, o = .returned v ∧ QP (some .null) h0 n0 v U'.heap L ∧ FrameEnd U o U' L ({ frames := 0, cells := 0, slots := 0, locals := 0 } : Room).cells ({ frames := 0, cells := 0, slots := 0, locals := 0 } : Room).slots) := by
  refine MetFree.of_bodySF (plainFor_of_name pn1) hisR ?_
  intro p e s m args below meth c s₁ Bd hml0 hP hK
  obtain ⟨rfl, hZ, hh⟩ := hP
  have hx := Bd.exec
  have hby := Bd.bytes
  have hml : c.maxLocals = 3 := hml0
  have hown : s.vm.findClass "com/example/nextkey/nextkey/table/Collation" = some m.cls := findClass_of_methodNamed Bd.named
  have hnm := (name_of_methodNamed Bd.named Bd.method).1
  have X0 : Stand p l e ({ frames := 0, cells := 0, slots := 0, locals := 0 } : Room) s m #[(.ref (w 1)), (.ref (w 2))] below meth c s₁ [] 0 0 := Stand.of_body Bd
  have e0 : s₁.heap = h0 := by rw [← hh, Bd.state]; rfl
  have N0 := Fr.nil n0
  refine Goes.out (Goes.by (fun tz kz => castTop (ef2_RR m ((w 1)) ((w 2))) kz) ?_)
  show Goes p e below (s₁.setTop (mkF m 0 #[.val (.ref (w 1)), .val (.ref (w 2)), .unset] [])) _
  refine Goes.by (fun _ kz => XS.aloadN X0.here hx rfl (hb hby d2_0) rfl rfl (XS.aloadN X0.here hx rfl (hb hby d2_1) rfl rfl (Jvm.RoadKit.acmp (g := (mkF m 2 #[.val (.ref (w 1)), .val (.ref (w 2)), .unset] [(.ref (w 2)), (.ref (w 1))])) X0 hx rfl rfl rfl (pc0 := 2) (pc' := 5) (same := false) rfl (hb hby d2_2) rfl (decide_eq_false fun q => (own_ne_1_2 P) (Value.ref.inj q)) (by decide) (by decide) kz))) ?_
  show Goes p e below (s₁.setTop (mkF m 5 #[.val (.ref (w 1)), .val (.ref (w 2)), .unset] [])) _
  refine Goes.by (fun _ kz => XS.aloadN X0.here hx rfl (hb hby d2_5) rfl rfl kz) ?_
  obtain ⟨T45, X45, e45, st45⟩ := getF X0 hx hZ hown (host := "") (Or.inl (hw _ (List.mem_of_getElem? (i := 15) rfl))) Via.refl e0 P.2.2.2.2.2.2.2.2.2.1 (g := (mkF m 6 #[.val (.ref (w 1)), .val (.ref (w 2)), .unset] [(.ref (w 2))])) rfl rfl (hb hby d2_6)
  refine Goes.by st45 ?_
  refine Goes.by (fun _ kz => XS.ifYes X45.here hx rfl (pc0 := 9) (pc' := 17) rfl (hb hby d2_9) rfl ((if0 _ _).trans (feq (by decide : ¬ ((1 : Int32) = (0 : Int32)))).2) (by decide) (by decide) (XS.aloadN X45.here hx rfl (hb hby d2_17) rfl rfl kz)) ?_
  obtain ⟨T46, X46, e46, st46⟩ := getF X45 hx hZ hown (host := "") (Or.inl (hw _ (List.mem_of_getElem? (i := 15) rfl))) Via.refl e45 P.2.2.2.2.2.2.2.2.2.2.1 (g := (mkF m 18 #[.val (.ref (w 1)), .val (.ref (w 2)), .unset] [(.ref (w 1))])) rfl rfl (hb hby d2_18)
  refine Goes.by st46 ?_
  refine Goes.by (fun _ kz => XS.ifYes X46.here hx rfl (pc0 := 21) (pc' := 29) rfl (hb hby d2_21) rfl ((if0 _ _).trans (feq (by decide : ¬ ((1 : Int32) = (0 : Int32)))).2) (by decide) (by decide) (XS.aconstNull X46.here hx rfl (hb hby d2_29) (XS.astoreN X46.here hx rfl (hb hby d2_30) rfl rfl (l' := #[.val (.ref (w 1)), .val (.ref (w 2)), .val .null]) rfl kz))) ?_
  show Goes p e below (T46.setTop (mkF m 31 #[.val (.ref (w 1)), .val (.ref (w 2)), .val .null] [])) _
  refine Goes.by (fun _ kz => XS.aloadN X46.here hx rfl (hb hby d2_31) rfl rfl kz) ?_
  show Goes p e below (T46.setTop (mkF m 32 #[.val (.ref (w 1)), .val (.ref (w 2)), .val .null] [.null])) _
  obtain ⟨fs, hr, hrun, hended, hW, hsame⟩ := X46.leave (v := some .null) (fun h => by rw [Bd.returns] at h; cases h)
  exact ⟨_, _, retOut X46 hx (t := (.object "com/example/nextkey/nextkey/table/Collation")) Bd.returns rfl (Or.inr (Or.inr (Or.inr (Or.inr ⟨rfl, rfl, rfl⟩)))) (hb hby d2_32) hr, hrun, hended, _, _, rfl, ⟨rfl, N0, e46⟩, ⟨_, rfl⟩, hW, hsame.mono (by decide) (by decide)⟩
set_option maxRecDepth 65536 in
set_option maxHeartbeats 40000000 in
theorem r2_11 (l : Launch) (Z : State) (a0 : Array Value) (hw : ∀ d ∈ tables_1, d.before a0 Z = true) (ws : List Jvm.Cond) (h0 : Heap) (n0 : Nat) (Z0 : n0 ≤ h0.size) (w : Nat → Addr) (P : Pins Z h0 w) :
    MetFree l (⟨"com/example/nextkey/nextkey/table/Collation", "common", "(Lcom/example/nextkey/nextkey/table/Collation;Lcom/example/nextkey/nextkey/table/Collation;)Lcom/example/nextkey/nextkey/table/Collation;"⟩ : MethodName) (head1 (Jvm.Cond.code (⟨"com/example/nextkey/nextkey/table/Collation", "common", "(Lcom/example/nextkey/nextkey/table/Collation;Lcom/example/nextkey/nextkey/table/Collation;)Lcom/example/nextkey/nextkey/table/Collation;"⟩ : MethodName) prog_66_method_6_code 3 (some (.object "com/example/nextkey/nextkey/table/Collation")) :: ws) ({ frames := 0, cells := 0, slots := 0, locals := 0 } : Room)) (fun a U => a = #[(.ref (w 1)), (.ref (w 1))] ∧ Z.Warmed39 U.vm ∧ U.heap = h0) (fun _ _ _ _ _ => True) (fun _ U o U' => ∃ v L, o = .returned v ∧ QP (some (.ref (w 1))) h0 n0 v U'.heap L ∧ FrameEnd U o U' L ({ frames := 0, cells := 0, slots := 0, locals := 0 } : Room).cells ({ frames := 0, cells := 0, slots := 0, locals := 0 } : Room).slots) := by
  refine MetFree.of_bodySF (plainFor_of_name pn1) hisR ?_
  intro p e s m args below meth c s₁ Bd hml0 hP hK
  obtain ⟨rfl, hZ, hh⟩ := hP
  have hx := Bd.exec
  have hby := Bd.bytes
  have hml : c.maxLocals = 3 := hml0
  have hown : s.vm.findClass "com/example/nextkey/nextkey/table/Collation" = some m.cls := findClass_of_methodNamed Bd.named
  have hnm := (name_of_methodNamed Bd.named Bd.method).1
  have X0 : Stand p l e ({ frames := 0, cells := 0, slots := 0, locals := 0 } : Room) s m #[(.ref (w 1)), (.ref (w 1))] below meth c s₁ [] 0 0 := Stand.of_body Bd
  have e0 : s₁.heap = h0 := by rw [← hh, Bd.state]; rfl
  have N0 := Fr.nil n0
  refine Goes.out (Goes.by (fun tz kz => castTop (ef2_RR m ((w 1)) ((w 1))) kz) ?_)
  show Goes p e below (s₁.setTop (mkF m 0 #[.val (.ref (w 1)), .val (.ref (w 1)), .unset] [])) _
  refine Goes.by (fun _ kz => XS.aloadN X0.here hx rfl (hb hby d2_0) rfl rfl (XS.aloadN X0.here hx rfl (hb hby d2_1) rfl rfl (Jvm.RoadKit.acmp (g := (mkF m 2 #[.val (.ref (w 1)), .val (.ref (w 1)), .unset] [(.ref (w 1)), (.ref (w 1))])) X0 hx rfl rfl rfl (pc0 := 2) (pc' := 12) (same := true) rfl (hb hby d2_2) rfl (decide_eq_true rfl) (by decide) (by decide) kz))) ?_
  show Goes p e below (s₁.setTop (mkF m 12 #[.val (.ref (w 1)), .val (.ref (w 1)), .unset] [])) _
  refine Goes.by (fun _ kz => XS.aloadN X0.here hx rfl (hb hby d2_12) rfl rfl (XS.astoreN X0.here hx rfl (hb hby d2_13) rfl rfl (l' := #[.val (.ref (w 1)), .val (.ref (w 1)), .val (.ref (w 1))]) rfl (XS.goto X0.here hx rfl (pc0 := 14) (pc' := 31) rfl (hb hby d2_14) (by decide) (by decide) kz))) ?_
  show Goes p e below (s₁.setTop (mkF m 31 #[.val (.ref (w 1)), .val (.ref (w 1)), .val (.ref (w 1))] [])) _
  refine Goes.by (fun _ kz => XS.aloadN X0.here hx rfl (hb hby d2_31) rfl rfl kz) ?_
  show Goes p e below (s₁.setTop (mkF m 32 #[.val (.ref (w 1)), .val (.ref (w 1)), .val (.ref (w 1))] [(.ref (w 1))])) _
  obtain ⟨fs, hr, hrun, hended, hW, hsame⟩ := X0.leave (v := some (.ref (w 1))) (fun h => by rw [Bd.returns] at h; cases h)
  exact ⟨_, _, retOut X0 hx (t := (.object "com/example/nextkey/nextkey/table/Collation")) Bd.returns rfl (Or.inr (Or.inr (Or.inr (Or.inr ⟨rfl, rfl, rfl⟩)))) (hb hby d2_32) hr, hrun, hended, _, _, rfl, ⟨rfl, N0, e0⟩, ⟨_, rfl⟩, hW, hsame.mono (by decide) (by decide)⟩
set_option maxRecDepth 65536 in
set_option maxHeartbeats 40000000 in
theorem rm0 (l : Launch) (Z : State) (a0 : Array Value) (hw : ∀ d ∈ tables_1, d.before a0 Z = true) (ws : List Jvm.Cond) (h0 : Heap) (n0 : Nat) (Z0 : n0 ≤ h0.size) (p1 : Int32) (p2 : Int32) (w : Nat → Addr) (P : Pins Z h0 w) :
    MetFree l x (head1 (Jvm.Cond.code x code maxLocals ret :: ws) room_1) (fun a U => a = #[(.int p1), (.int p2)] ∧ Z.Warmed39 U.vm ∧ U.heap = h0) (fun _ _ _ _ _ => True) (fun _ U o U' => ∃ v L, o = .returned v ∧ QL n0 v U'.heap L ∧ FrameEnd U o U' L 0 0) := by
  refine MetFree.of_bodySF (plainFor_of_name pn0) hisR ?_
  intro p e s m args below meth c s₁ Bd hml0 hP hK
  obtain ⟨rfl, hZ, hh⟩ := hP
  have hx := Bd.exec
  have hby := Bd.bytes
  have hml : c.maxLocals = 5 := hml0
  have hown : s.vm.findClass "com/example/nextkey/nextkey/table/CollationCommonPinLaw" = some m.cls := findClass_of_methodNamed Bd.named
  have hnm := (name_of_methodNamed Bd.named Bd.method).1
  have X0 : Stand p l e room_1 s m #[(.int p1), (.int p2)] below meth c s₁ [] 0 0 := Stand.of_body Bd
  have e0 : s₁.heap = h0 := by rw [← hh, Bd.state]; rfl
  have N0 := Fr.nil n0
  refine Goes.out (Goes.by (fun tz kz => castTop (ef0_II m p1 p2) kz) ?_)
  show Goes p e below (s₁.setTop (mkF m 0 #[.val (.int p1), .val (.int p2), .unset, .unset, .unset] [])) _
  rcases own_split p1 with hq1 | hq1 | hq1
  · rcases own_split p2 with hq2 | hq2 | hq2
    · show Goes p e below (s₁.setTop (mkF m 0 #[.val (.int p1), .val (.int p2), .unset, .unset, .unset] [])) _
      refine Goes.by (fun _ kz => XS.iloadN X0.here hx rfl (hb hby at_0) rfl kz) ?_
      obtain ⟨_, _, ⟨T2, L2, k2, n2⟩, -, X2, ⟨Lc2, hQ2, l2, y2, z2⟩, st2⟩ := Jvm.LawKit.callS X0 hx (y := (⟨"com/example/nextkey/nextkey/table/CollationCommonPinLaw", "pick", "(I)Lcom/example/nextkey/nextkey/table/Collation;"⟩ : MethodName)) hown (mvT hZ (hw _ (List.mem_of_getElem? (i := 0) rfl))) (mvT hZ (hw _ (List.mem_of_getElem? (i := 1) rfl))) (mvT hZ (hw _ (List.mem_of_getElem? (i := 2) rfl))) (mvT hZ (hw _ (List.mem_of_getElem? (i := 3) rfl))) (by decide) (backOf (W := 0) (r1_0 l Z a0 hw [] h0 n0 Z0 p1 w hq1 P) hZ (hw _ (List.mem_of_getElem? (i := 3) rfl)) (hw _ (List.mem_of_getElem? (i := 2) rfl)) (by decide) (by decide)) (g := (mkF m 1 #[.val (.int p1), .val (.int p2), .unset, .unset, .unset] [(.int p1)])) rfl (by rw [hml]; rfl) (argsL := [(.int p1)]) (rest := []) (lenOf pd0 rfl) rfl (by show 2 * 0 + _ ≤ _; exact Nat.le_of_eq rfl) (hb hby at_1) (fun _ _ => ⟨rfl, e0, (by decide : 0 + 0 ≤ _), (by decide : 0 + 0 ≤ _)⟩)
      dsimp only [Pt.U, Pt.locs, Pt.cells, Pt.slots] at X2 l2 y2 z2 st2 hQ2
      subst l2 y2 z2
      obtain ⟨rfl, Nq2, e2⟩ := hQ2
      have N2 := Fr.app N0 Nq2
      refine Goes.by st2 ?_
      refine Goes.by (fun _ kz => XS.astoreN X2.here hx rfl (hb hby at_4) rfl rfl (l' := #[.val (.int p1), .val (.int p2), .val (.ref (w 0)), .unset, .unset]) rfl (XS.iloadN X2.here hx rfl (hb hby at_5) rfl kz)) ?_
      obtain ⟨_, _, ⟨T3, L3, k3, n3⟩, -, X3, ⟨Lc3, hQ3, l3, y3, z3⟩, st3⟩ := Jvm.LawKit.callS X2 hx (y := (⟨"com/example/nextkey/nextkey/table/CollationCommonPinLaw", "pick", "(I)Lcom/example/nextkey/nextkey/table/Collation;"⟩ : MethodName)) hown (mvT hZ (hw _ (List.mem_of_getElem? (i := 0) rfl))) (mvT hZ (hw _ (List.mem_of_getElem? (i := 1) rfl))) (mvT hZ (hw _ (List.mem_of_getElem? (i := 2) rfl))) (mvT hZ (hw _ (List.mem_of_getElem? (i := 3) rfl))) (by decide) (backOf (W := 0) (r1_0 l Z a0 hw [] h0 n0 Z0 p2 w hq2 P) hZ (hw _ (List.mem_of_getElem? (i := 3) rfl)) (hw _ (List.mem_of_getElem? (i := 2) rfl)) (by decide) (by decide)) (g := (mkF m 6 #[.val (.int p1), .val (.int p2), .val (.ref (w 0)), .unset, .unset] [(.int p2)])) rfl (by rw [hml]; rfl) (argsL := [(.int p2)]) (rest := []) (lenOf pd0 rfl) rfl (by show 2 * 0 + _ ≤ _; exact Nat.le_of_eq rfl) (hb hby at_6) (fun _ _ => ⟨rfl, e2, (by decide : 0 + 0 ≤ _), (by decide : 0 + 0 ≤ _)⟩)
      dsimp only [Pt.U, Pt.locs, Pt.cells, Pt.slots] at X3 l3 y3 z3 st3 hQ3
      subst l3 y3 z3
      obtain ⟨rfl, Nq3, e3⟩ := hQ3
      have N3 := Fr.app N2 Nq3
      refine Goes.by st3 ?_
      refine Goes.by (fun _ kz => XS.astoreN X3.here hx rfl (hb hby at_9) rfl rfl (l' := #[.val (.int p1), .val (.int p2), .val (.ref (w 0)), .val (.ref (w 0)), .unset]) rfl (XS.aloadN X3.here hx rfl (hb hby at_10) rfl rfl (XS.aloadN X3.here hx rfl (hb hby at_11) rfl rfl kz))) ?_
      show Goes p e below (T3.setTop (mkF m 12 #[.val (.int p1), .val (.int p2), .val (.ref (w 0)), .val (.ref (w 0)), .unset] [(.ref (w 0)), (.ref (w 0))])) _
      refine Goes.by (fun _ kz => Jvm.RoadKit.acmp (g := (mkF m 12 #[.val (.int p1), .val (.int p2), .val (.ref (w 0)), .val (.ref (w 0)), .unset] [(.ref (w 0)), (.ref (w 0))])) X3 hx rfl rfl rfl (pc0 := 12) (pc' := 15) (same := true) rfl (hb hby at_12) rfl (decide_eq_true rfl) (by decide) (by decide) (XS.aloadN X3.here hx rfl (hb hby at_15) rfl rfl (XS.astore X3.here hx rfl (hb hby at_16) rfl rfl (l' := #[.val (.int p1), .val (.int p2), .val (.ref (w 0)), .val (.ref (w 0)), .val (.ref (w 0))]) rfl kz))) ?_
      show Goes p e below (T3.setTop (mkF m 18 #[.val (.int p1), .val (.int p2), .val (.ref (w 0)), .val (.ref (w 0)), .val (.ref (w 0))] [])) _
      refine Goes.by (fun _ kz => XS.goto X3.here hx rfl (pc0 := 18) (pc' := 50) rfl (hb hby at_18) (by decide) (by decide) (XS.aloadN X3.here hx rfl (hb hby at_50) rfl rfl (XS.aloadN X3.here hx rfl (hb hby at_51) rfl rfl kz))) ?_
      obtain ⟨_, _, ⟨T4, L4, k4, n4⟩, -, X4, ⟨Lc4, hQ4, l4, y4, z4⟩, st4⟩ := Jvm.LawKit.callS X3 hx (y := (⟨"com/example/nextkey/nextkey/table/Collation", "common", "(Lcom/example/nextkey/nextkey/table/Collation;Lcom/example/nextkey/nextkey/table/Collation;)Lcom/example/nextkey/nextkey/table/Collation;"⟩ : MethodName)) hown (mvT hZ (hw _ (List.mem_of_getElem? (i := 8) rfl))) (mvT hZ (hw _ (List.mem_of_getElem? (i := 9) rfl))) (mvT hZ (hw _ (List.mem_of_getElem? (i := 6) rfl))) (mvT hZ (hw _ (List.mem_of_getElem? (i := 10) rfl))) (by decide) (backOf (W := 0) (r2_1 l Z a0 hw [] h0 n0 Z0 w P) hZ (hw _ (List.mem_of_getElem? (i := 10) rfl)) (hw _ (List.mem_of_getElem? (i := 6) rfl)) (by decide) (by decide)) (g := (mkF m 52 #[.val (.int p1), .val (.int p2), .val (.ref (w 0)), .val (.ref (w 0)), .val (.ref (w 0))] [(.ref (w 0)), (.ref (w 0))])) rfl (by rw [hml]; rfl) (argsL := [(.ref (w 0)), (.ref (w 0))]) (rest := []) (lenOf pd1 rfl) rfl (by show 2 * 0 + _ ≤ _; exact Nat.le_of_eq rfl) (hb hby at_52) (fun _ _ => ⟨rfl, e3, (by decide : 0 + 0 ≤ _), (by decide : 0 + 0 ≤ _)⟩)
      dsimp only [Pt.U, Pt.locs, Pt.cells, Pt.slots] at X4 l4 y4 z4 st4 hQ4
      subst l4 y4 z4
      obtain ⟨rfl, Nq4, e4⟩ := hQ4
      have N4 := Fr.app N3 Nq4
      refine Goes.by st4 ?_
      refine Goes.by (fun _ kz => XS.aload X4.here hx rfl (hb hby at_55) rfl rfl (Jvm.RoadKit.acmp (g := (mkF m 57 #[.val (.int p1), .val (.int p2), .val (.ref (w 0)), .val (.ref (w 0)), .val (.ref (w 0))] [(.ref (w 0)), (.ref (w 0))])) X4 hx rfl rfl rfl (pc0 := 57) (pc' := 60) (same := true) rfl (hb hby at_57) rfl (decide_eq_true rfl) (by decide) (by decide) (XS.iconst X4.here hx rfl (hb hby at_60) kz))) ?_
      show Goes p e below (T4.setTop (mkF m 61 #[.val (.int p1), .val (.int p2), .val (.ref (w 0)), .val (.ref (w 0)), .val (.ref (w 0))] [(.int (1 : Int32))])) _
      refine Goes.by (fun _ kz => XS.goto X4.here hx rfl (pc0 := 61) (pc' := 65) rfl (hb hby at_61) (by decide) (by decide) kz) ?_
      show Goes p e below (T4.setTop (mkF m 65 #[.val (.int p1), .val (.int p2), .val (.ref (w 0)), .val (.ref (w 0)), .val (.ref (w 0))] [(.int (1 : Int32))])) _
      obtain ⟨fs, hr, hrun, hended, hW, hsame⟩ := X4.leave (v := some (.int (1 : Int32))) (fun h => by rw [Bd.returns] at h; cases h)
      exact ⟨_, _, retN X4 hx (t := .boolean) Bd.returns (by simp) (hb hby at_65) hr, hrun, hended, _, _, rfl, ⟨rfl, N4⟩, ⟨_, rfl⟩, hW, hsame.mono (by decide) (by decide)⟩
    · show Goes p e below (s₁.setTop (mkF m 0 #[.val (.int p1), .val (.int p2), .unset, .unset, .unset] [])) _
      refine Goes.by (fun _ kz => XS.iloadN X0.here hx rfl (hb hby at_0) rfl kz) ?_
      obtain ⟨_, _, ⟨T5, L5, k5, n5⟩, -, X5, ⟨Lc5, hQ5, l5, y5, z5⟩, st5⟩ := Jvm.LawKit.callS X0 hx (y := (⟨"com/example/nextkey/nextkey/table/CollationCommonPinLaw", "pick", "(I)Lcom/example/nextkey/nextkey/table/Collation;"⟩ : MethodName)) hown (mvT hZ (hw _ (List.mem_of_getElem? (i := 0) rfl))) (mvT hZ (hw _ (List.mem_of_getElem? (i := 1) rfl))) (mvT hZ (hw _ (List.mem_of_getElem? (i := 2) rfl))) (mvT hZ (hw _ (List.mem_of_getElem? (i := 3) rfl))) (by decide) (backOf (W := 0) (r1_0 l Z a0 hw [] h0 n0 Z0 p1 w hq1 P) hZ (hw _ (List.mem_of_getElem? (i := 3) rfl)) (hw _ (List.mem_of_getElem? (i := 2) rfl)) (by decide) (by decide)) (g := (mkF m 1 #[.val (.int p1), .val (.int p2), .unset, .unset, .unset] [(.int p1)])) rfl (by rw [hml]; rfl) (argsL := [(.int p1)]) (rest := []) (lenOf pd0 rfl) rfl (by show 2 * 0 + _ ≤ _; exact Nat.le_of_eq rfl) (hb hby at_1) (fun _ _ => ⟨rfl, e0, (by decide : 0 + 0 ≤ _), (by decide : 0 + 0 ≤ _)⟩)
      dsimp only [Pt.U, Pt.locs, Pt.cells, Pt.slots] at X5 l5 y5 z5 st5 hQ5
      subst l5 y5 z5
      obtain ⟨rfl, Nq5, e5⟩ := hQ5
      have N5 := Fr.app N0 Nq5
      refine Goes.by st5 ?_
      refine Goes.by (fun _ kz => XS.astoreN X5.here hx rfl (hb hby at_4) rfl rfl (l' := #[.val (.int p1), .val (.int p2), .val (.ref (w 0)), .unset, .unset]) rfl (XS.iloadN X5.here hx rfl (hb hby at_5) rfl kz)) ?_
      obtain ⟨_, _, ⟨T7, L7, k7, n7⟩, -, X7, ⟨Lc7, hQ7, l7, y7, z7⟩, st7⟩ := Jvm.LawKit.callS X5 hx (y := (⟨"com/example/nextkey/nextkey/table/CollationCommonPinLaw", "pick", "(I)Lcom/example/nextkey/nextkey/table/Collation;"⟩ : MethodName)) hown (mvT hZ (hw _ (List.mem_of_getElem? (i := 0) rfl))) (mvT hZ (hw _ (List.mem_of_getElem? (i := 1) rfl))) (mvT hZ (hw _ (List.mem_of_getElem? (i := 2) rfl))) (mvT hZ (hw _ (List.mem_of_getElem? (i := 3) rfl))) (by decide) (backOf (W := 0) (r1_1 l Z a0 hw [] h0 n0 Z0 p2 w hq2 P) hZ (hw _ (List.mem_of_getElem? (i := 3) rfl)) (hw _ (List.mem_of_getElem? (i := 2) rfl)) (by decide) (by decide)) (g := (mkF m 6 #[.val (.int p1), .val (.int p2), .val (.ref (w 0)), .unset, .unset] [(.int p2)])) rfl (by rw [hml]; rfl) (argsL := [(.int p2)]) (rest := []) (lenOf pd0 rfl) rfl (by show 2 * 0 + _ ≤ _; exact Nat.le_of_eq rfl) (hb hby at_6) (fun _ _ => ⟨rfl, e5, (by decide : 0 + 0 ≤ _), (by decide : 0 + 0 ≤ _)⟩)
      dsimp only [Pt.U, Pt.locs, Pt.cells, Pt.slots] at X7 l7 y7 z7 st7 hQ7
      subst l7 y7 z7
      obtain ⟨rfl, Nq7, e7⟩ := hQ7
      have N7 := Fr.app N5 Nq7
      refine Goes.by st7 ?_
      refine Goes.by (fun _ kz => XS.astoreN X7.here hx rfl (hb hby at_9) rfl rfl (l' := #[.val (.int p1), .val (.int p2), .val (.ref (w 0)), .val (.ref (w 2)), .unset]) rfl (XS.aloadN X7.here hx rfl (hb hby at_10) rfl rfl (XS.aloadN X7.here hx rfl (hb hby at_11) rfl rfl kz))) ?_
      show Goes p e below (T7.setTop (mkF m 12 #[.val (.int p1), .val (.int p2), .val (.ref (w 0)), .val (.ref (w 2)), .unset] [(.ref (w 2)), (.ref (w 0))])) _
      refine Goes.by (fun _ kz => Jvm.RoadKit.acmp (g := (mkF m 12 #[.val (.int p1), .val (.int p2), .val (.ref (w 0)), .val (.ref (w 2)), .unset] [(.ref (w 2)), (.ref (w 0))])) X7 hx rfl rfl rfl (pc0 := 12) (pc' := 21) (same := false) rfl (hb hby at_12) rfl (decide_eq_false fun q => (Ne.symm (own_ne_2_0 P)) (Value.ref.inj q)) (by decide) (by decide) (XS.aloadN X7.here hx rfl (hb hby at_21) rfl rfl kz)) ?_
      obtain ⟨T8, X8, e8, st8⟩ := getS2 X7 hx hZ hown (host := "") (Or.inl (hw _ (List.mem_of_getElem? (i := 5) rfl))) Via.refl e7 P.1 (g := (mkF m 22 #[.val (.int p1), .val (.int p2), .val (.ref (w 0)), .val (.ref (w 2)), .unset] [(.ref (w 0))])) rfl (hb hby at_22)
      refine Goes.by st8 ?_
      refine Goes.by (fun _ kz => Jvm.RoadKit.acmp (g := (mkF m 25 #[.val (.int p1), .val (.int p2), .val (.ref (w 0)), .val (.ref (w 2)), .unset] [(.ref (w 0)), (.ref (w 0))])) X8 hx rfl rfl rfl (pc0 := 25) (pc' := 28) (same := true) rfl (hb hby at_25) rfl (decide_eq_true rfl) (by decide) (by decide) (XS.aloadN X8.here hx rfl (hb hby at_28) rfl rfl (XS.astore X8.here hx rfl (hb hby at_29) rfl rfl (l' := #[.val (.int p1), .val (.int p2), .val (.ref (w 0)), .val (.ref (w 2)), .val (.ref (w 2))]) rfl kz))) ?_
      show Goes p e below (T8.setTop (mkF m 31 #[.val (.int p1), .val (.int p2), .val (.ref (w 0)), .val (.ref (w 2)), .val (.ref (w 2))] [])) _
      refine Goes.by (fun _ kz => XS.goto X8.here hx rfl (pc0 := 31) (pc' := 50) rfl (hb hby at_31) (by decide) (by decide) (XS.aloadN X8.here hx rfl (hb hby at_50) rfl rfl (XS.aloadN X8.here hx rfl (hb hby at_51) rfl rfl kz))) ?_
      obtain ⟨_, _, ⟨T11, L11, k11, n11⟩, -, X11, ⟨Lc11, hQ11, l11, y11, z11⟩, st11⟩ := Jvm.LawKit.callS X8 hx (y := (⟨"com/example/nextkey/nextkey/table/Collation", "common", "(Lcom/example/nextkey/nextkey/table/Collation;Lcom/example/nextkey/nextkey/table/Collation;)Lcom/example/nextkey/nextkey/table/Collation;"⟩ : MethodName)) hown (mvT hZ (hw _ (List.mem_of_getElem? (i := 8) rfl))) (mvT hZ (hw _ (List.mem_of_getElem? (i := 9) rfl))) (mvT hZ (hw _ (List.mem_of_getElem? (i := 6) rfl))) (mvT hZ (hw _ (List.mem_of_getElem? (i := 10) rfl))) (by decide) (backOf (W := 0) (r2_3 l Z a0 hw [] h0 n0 Z0 w P) hZ (hw _ (List.mem_of_getElem? (i := 10) rfl)) (hw _ (List.mem_of_getElem? (i := 6) rfl)) (by decide) (by decide)) (g := (mkF m 52 #[.val (.int p1), .val (.int p2), .val (.ref (w 0)), .val (.ref (w 2)), .val (.ref (w 2))] [(.ref (w 2)), (.ref (w 0))])) rfl (by rw [hml]; rfl) (argsL := [(.ref (w 0)), (.ref (w 2))]) (rest := []) (lenOf pd1 rfl) rfl (by show 2 * 0 + _ ≤ _; exact Nat.le_of_eq rfl) (hb hby at_52) (fun _ _ => ⟨rfl, e8, (by decide : 0 + 0 ≤ _), (by decide : 0 + 0 ≤ _)⟩)
      dsimp only [Pt.U, Pt.locs, Pt.cells, Pt.slots] at X11 l11 y11 z11 st11 hQ11
      subst l11 y11 z11
      obtain ⟨rfl, Nq11, e11⟩ := hQ11
      have N11 := Fr.app N7 Nq11
      refine Goes.by st11 ?_
      refine Goes.by (fun _ kz => XS.aload X11.here hx rfl (hb hby at_55) rfl rfl (Jvm.RoadKit.acmp (g := (mkF m 57 #[.val (.int p1), .val (.int p2), .val (.ref (w 0)), .val (.ref (w 2)), .val (.ref (w 2))] [(.ref (w 2)), (.ref (w 2))])) X11 hx rfl rfl rfl (pc0 := 57) (pc' := 60) (same := true) rfl (hb hby at_57) rfl (decide_eq_true rfl) (by decide) (by decide) (XS.iconst X11.here hx rfl (hb hby at_60) kz))) ?_
      show Goes p e below (T11.setTop (mkF m 61 #[.val (.int p1), .val (.int p2), .val (.ref (w 0)), .val (.ref (w 2)), .val (.ref (w 2))] [(.int (1 : Int32))])) _
      refine Goes.by (fun _ kz => XS.goto X11.here hx rfl (pc0 := 61) (pc' := 65) rfl (hb hby at_61) (by decide) (by decide) kz) ?_
      show Goes p e below (T11.setTop (mkF m 65 #[.val (.int p1), .val (.int p2), .val (.ref (w 0)), .val (.ref (w 2)), .val (.ref (w 2))] [(.int (1 : Int32))])) _
      obtain ⟨fs, hr, hrun, hended, hW, hsame⟩ := X11.leave (v := some (.int (1 : Int32))) (fun h => by rw [Bd.returns] at h; cases h)
      exact ⟨_, _, retN X11 hx (t := .boolean) Bd.returns (by simp) (hb hby at_65) hr, hrun, hended, _, _, rfl, ⟨rfl, N11⟩, ⟨_, rfl⟩, hW, hsame.mono (by decide) (by decide)⟩
    · show Goes p e below (s₁.setTop (mkF m 0 #[.val (.int p1), .val (.int p2), .unset, .unset, .unset] [])) _
      refine Goes.by (fun _ kz => XS.iloadN X0.here hx rfl (hb hby at_0) rfl kz) ?_
      obtain ⟨_, _, ⟨T12, L12, k12, n12⟩, -, X12, ⟨Lc12, hQ12, l12, y12, z12⟩, st12⟩ := Jvm.LawKit.callS X0 hx (y := (⟨"com/example/nextkey/nextkey/table/CollationCommonPinLaw", "pick", "(I)Lcom/example/nextkey/nextkey/table/Collation;"⟩ : MethodName)) hown (mvT hZ (hw _ (List.mem_of_getElem? (i := 0) rfl))) (mvT hZ (hw _ (List.mem_of_getElem? (i := 1) rfl))) (mvT hZ (hw _ (List.mem_of_getElem? (i := 2) rfl))) (mvT hZ (hw _ (List.mem_of_getElem? (i := 3) rfl))) (by decide) (backOf (W := 0) (r1_0 l Z a0 hw [] h0 n0 Z0 p1 w hq1 P) hZ (hw _ (List.mem_of_getElem? (i := 3) rfl)) (hw _ (List.mem_of_getElem? (i := 2) rfl)) (by decide) (by decide)) (g := (mkF m 1 #[.val (.int p1), .val (.int p2), .unset, .unset, .unset] [(.int p1)])) rfl (by rw [hml]; rfl) (argsL := [(.int p1)]) (rest := []) (lenOf pd0 rfl) rfl (by show 2 * 0 + _ ≤ _; exact Nat.le_of_eq rfl) (hb hby at_1) (fun _ _ => ⟨rfl, e0, (by decide : 0 + 0 ≤ _), (by decide : 0 + 0 ≤ _)⟩)
      dsimp only [Pt.U, Pt.locs, Pt.cells, Pt.slots] at X12 l12 y12 z12 st12 hQ12
      subst l12 y12 z12
      obtain ⟨rfl, Nq12, e12⟩ := hQ12
      have N12 := Fr.app N0 Nq12
      refine Goes.by st12 ?_
      refine Goes.by (fun _ kz => XS.astoreN X12.here hx rfl (hb hby at_4) rfl rfl (l' := #[.val (.int p1), .val (.int p2), .val (.ref (w 0)), .unset, .unset]) rfl (XS.iloadN X12.here hx rfl (hb hby at_5) rfl kz)) ?_
      obtain ⟨_, _, ⟨T14, L14, k14, n14⟩, -, X14, ⟨Lc14, hQ14, l14, y14, z14⟩, st14⟩ := Jvm.LawKit.callS X12 hx (y := (⟨"com/example/nextkey/nextkey/table/CollationCommonPinLaw", "pick", "(I)Lcom/example/nextkey/nextkey/table/Collation;"⟩ : MethodName)) hown (mvT hZ (hw _ (List.mem_of_getElem? (i := 0) rfl))) (mvT hZ (hw _ (List.mem_of_getElem? (i := 1) rfl))) (mvT hZ (hw _ (List.mem_of_getElem? (i := 2) rfl))) (mvT hZ (hw _ (List.mem_of_getElem? (i := 3) rfl))) (by decide) (backOf (W := 0) (r1_2 l Z a0 hw [] h0 n0 Z0 p2 w hq2 P) hZ (hw _ (List.mem_of_getElem? (i := 3) rfl)) (hw _ (List.mem_of_getElem? (i := 2) rfl)) (by decide) (by decide)) (g := (mkF m 6 #[.val (.int p1), .val (.int p2), .val (.ref (w 0)), .unset, .unset] [(.int p2)])) rfl (by rw [hml]; rfl) (argsL := [(.int p2)]) (rest := []) (lenOf pd0 rfl) rfl (by show 2 * 0 + _ ≤ _; exact Nat.le_of_eq rfl) (hb hby at_6) (fun _ _ => ⟨rfl, e12, (by decide : 0 + 0 ≤ _), (by decide : 0 + 0 ≤ _)⟩)
      dsimp only [Pt.U, Pt.locs, Pt.cells, Pt.slots] at X14 l14 y14 z14 st14 hQ14
      subst l14 y14 z14
      obtain ⟨rfl, Nq14, e14⟩ := hQ14
      have N14 := Fr.app N12 Nq14
      refine Goes.by st14 ?_
      refine Goes.by (fun _ kz => XS.astoreN X14.here hx rfl (hb hby at_9) rfl rfl (l' := #[.val (.int p1), .val (.int p2), .val (.ref (w 0)), .val (.ref (w 1)), .unset]) rfl (XS.aloadN X14.here hx rfl (hb hby at_10) rfl rfl (XS.aloadN X14.here hx rfl (hb hby at_11) rfl rfl kz))) ?_
      show Goes p e below (T14.setTop (mkF m 12 #[.val (.int p1), .val (.int p2), .val (.ref (w 0)), .val (.ref (w 1)), .unset] [(.ref (w 1)), (.ref (w 0))])) _
      refine Goes.by (fun _ kz => Jvm.RoadKit.acmp (g := (mkF m 12 #[.val (.int p1), .val (.int p2), .val (.ref (w 0)), .val (.ref (w 1)), .unset] [(.ref (w 1)), (.ref (w 0))])) X14 hx rfl rfl rfl (pc0 := 12) (pc' := 21) (same := false) rfl (hb hby at_12) rfl (decide_eq_false fun q => (Ne.symm (own_ne_1_0 P)) (Value.ref.inj q)) (by decide) (by decide) (XS.aloadN X14.here hx rfl (hb hby at_21) rfl rfl kz)) ?_
      obtain ⟨T15, X15, e15, st15⟩ := getS2 X14 hx hZ hown (host := "") (Or.inl (hw _ (List.mem_of_getElem? (i := 5) rfl))) Via.refl e14 P.1 (g := (mkF m 22 #[.val (.int p1), .val (.int p2), .val (.ref (w 0)), .val (.ref (w 1)), .unset] [(.ref (w 0))])) rfl (hb hby at_22)
      refine Goes.by st15 ?_
      refine Goes.by (fun _ kz => Jvm.RoadKit.acmp (g := (mkF m 25 #[.val (.int p1), .val (.int p2), .val (.ref (w 0)), .val (.ref (w 1)), .unset] [(.ref (w 0)), (.ref (w 0))])) X15 hx rfl rfl rfl (pc0 := 25) (pc' := 28) (same := true) rfl (hb hby at_25) rfl (decide_eq_true rfl) (by decide) (by decide) (XS.aloadN X15.here hx rfl (hb hby at_28) rfl rfl (XS.astore X15.here hx rfl (hb hby at_29) rfl rfl (l' := #[.val (.int p1), .val (.int p2), .val (.ref (w 0)), .val (.ref (w 1)), .val (.ref (w 1))]) rfl kz))) ?_
      show Goes p e below (T15.setTop (mkF m 31 #[.val (.int p1), .val (.int p2), .val (.ref (w 0)), .val (.ref (w 1)), .val (.ref (w 1))] [])) _
      refine Goes.by (fun _ kz => XS.goto X15.here hx rfl (pc0 := 31) (pc' := 50) rfl (hb hby at_31) (by decide) (by decide) (XS.aloadN X15.here hx rfl (hb hby at_50) rfl rfl (XS.aloadN X15.here hx rfl (hb hby at_51) rfl rfl kz))) ?_
      obtain ⟨_, _, ⟨T18, L18, k18, n18⟩, -, X18, ⟨Lc18, hQ18, l18, y18, z18⟩, st18⟩ := Jvm.LawKit.callS X15 hx (y := (⟨"com/example/nextkey/nextkey/table/Collation", "common", "(Lcom/example/nextkey/nextkey/table/Collation;Lcom/example/nextkey/nextkey/table/Collation;)Lcom/example/nextkey/nextkey/table/Collation;"⟩ : MethodName)) hown (mvT hZ (hw _ (List.mem_of_getElem? (i := 8) rfl))) (mvT hZ (hw _ (List.mem_of_getElem? (i := 9) rfl))) (mvT hZ (hw _ (List.mem_of_getElem? (i := 6) rfl))) (mvT hZ (hw _ (List.mem_of_getElem? (i := 10) rfl))) (by decide) (backOf (W := 0) (r2_5 l Z a0 hw [] h0 n0 Z0 w P) hZ (hw _ (List.mem_of_getElem? (i := 10) rfl)) (hw _ (List.mem_of_getElem? (i := 6) rfl)) (by decide) (by decide)) (g := (mkF m 52 #[.val (.int p1), .val (.int p2), .val (.ref (w 0)), .val (.ref (w 1)), .val (.ref (w 1))] [(.ref (w 1)), (.ref (w 0))])) rfl (by rw [hml]; rfl) (argsL := [(.ref (w 0)), (.ref (w 1))]) (rest := []) (lenOf pd1 rfl) rfl (by show 2 * 0 + _ ≤ _; exact Nat.le_of_eq rfl) (hb hby at_52) (fun _ _ => ⟨rfl, e15, (by decide : 0 + 0 ≤ _), (by decide : 0 + 0 ≤ _)⟩)
      dsimp only [Pt.U, Pt.locs, Pt.cells, Pt.slots] at X18 l18 y18 z18 st18 hQ18
      subst l18 y18 z18
      obtain ⟨rfl, Nq18, e18⟩ := hQ18
      have N18 := Fr.app N14 Nq18
      refine Goes.by st18 ?_
      refine Goes.by (fun _ kz => XS.aload X18.here hx rfl (hb hby at_55) rfl rfl (Jvm.RoadKit.acmp (g := (mkF m 57 #[.val (.int p1), .val (.int p2), .val (.ref (w 0)), .val (.ref (w 1)), .val (.ref (w 1))] [(.ref (w 1)), (.ref (w 1))])) X18 hx rfl rfl rfl (pc0 := 57) (pc' := 60) (same := true) rfl (hb hby at_57) rfl (decide_eq_true rfl) (by decide) (by decide) (XS.iconst X18.here hx rfl (hb hby at_60) kz))) ?_
      show Goes p e below (T18.setTop (mkF m 61 #[.val (.int p1), .val (.int p2), .val (.ref (w 0)), .val (.ref (w 1)), .val (.ref (w 1))] [(.int (1 : Int32))])) _
      refine Goes.by (fun _ kz => XS.goto X18.here hx rfl (pc0 := 61) (pc' := 65) rfl (hb hby at_61) (by decide) (by decide) kz) ?_
      show Goes p e below (T18.setTop (mkF m 65 #[.val (.int p1), .val (.int p2), .val (.ref (w 0)), .val (.ref (w 1)), .val (.ref (w 1))] [(.int (1 : Int32))])) _
      obtain ⟨fs, hr, hrun, hended, hW, hsame⟩ := X18.leave (v := some (.int (1 : Int32))) (fun h => by rw [Bd.returns] at h; cases h)
      exact ⟨_, _, retN X18 hx (t := .boolean) Bd.returns (by simp) (hb hby at_65) hr, hrun, hended, _, _, rfl, ⟨rfl, N18⟩, ⟨_, rfl⟩, hW, hsame.mono (by decide) (by decide)⟩
  · rcases own_split p2 with hq2 | hq2 | hq2
    · show Goes p e below (s₁.setTop (mkF m 0 #[.val (.int p1), .val (.int p2), .unset, .unset, .unset] [])) _
      refine Goes.by (fun _ kz => XS.iloadN X0.here hx rfl (hb hby at_0) rfl kz) ?_
      obtain ⟨_, _, ⟨T19, L19, k19, n19⟩, -, X19, ⟨Lc19, hQ19, l19, y19, z19⟩, st19⟩ := Jvm.LawKit.callS X0 hx (y := (⟨"com/example/nextkey/nextkey/table/CollationCommonPinLaw", "pick", "(I)Lcom/example/nextkey/nextkey/table/Collation;"⟩ : MethodName)) hown (mvT hZ (hw _ (List.mem_of_getElem? (i := 0) rfl))) (mvT hZ (hw _ (List.mem_of_getElem? (i := 1) rfl))) (mvT hZ (hw _ (List.mem_of_getElem? (i := 2) rfl))) (mvT hZ (hw _ (List.mem_of_getElem? (i := 3) rfl))) (by decide) (backOf (W := 0) (r1_1 l Z a0 hw [] h0 n0 Z0 p1 w hq1 P) hZ (hw _ (List.mem_of_getElem? (i := 3) rfl)) (hw _ (List.mem_of_getElem? (i := 2) rfl)) (by decide) (by decide)) (g := (mkF m 1 #[.val (.int p1), .val (.int p2), .unset, .unset, .unset] [(.int p1)])) rfl (by rw [hml]; rfl) (argsL := [(.int p1)]) (rest := []) (lenOf pd0 rfl) rfl (by show 2 * 0 + _ ≤ _; exact Nat.le_of_eq rfl) (hb hby at_1) (fun _ _ => ⟨rfl, e0, (by decide : 0 + 0 ≤ _), (by decide : 0 + 0 ≤ _)⟩)
      dsimp only [Pt.U, Pt.locs, Pt.cells, Pt.slots] at X19 l19 y19 z19 st19 hQ19
      subst l19 y19 z19
      obtain ⟨rfl, Nq19, e19⟩ := hQ19
      have N19 := Fr.app N0 Nq19
      refine Goes.by st19 ?_
      refine Goes.by (fun _ kz => XS.astoreN X19.here hx rfl (hb hby at_4) rfl rfl (l' := #[.val (.int p1), .val (.int p2), .val (.ref (w 2)), .unset, .unset]) rfl (XS.iloadN X19.here hx rfl (hb hby at_5) rfl kz)) ?_
      obtain ⟨_, _, ⟨T20, L20, k20, n20⟩, -, X20, ⟨Lc20, hQ20, l20, y20, z20⟩, st20⟩ := Jvm.LawKit.callS X19 hx (y := (⟨"com/example/nextkey/nextkey/table/CollationCommonPinLaw", "pick", "(I)Lcom/example/nextkey/nextkey/table/Collation;"⟩ : MethodName)) hown (mvT hZ (hw _ (List.mem_of_getElem? (i := 0) rfl))) (mvT hZ (hw _ (List.mem_of_getElem? (i := 1) rfl))) (mvT hZ (hw _ (List.mem_of_getElem? (i := 2) rfl))) (mvT hZ (hw _ (List.mem_of_getElem? (i := 3) rfl))) (by decide) (backOf (W := 0) (r1_0 l Z a0 hw [] h0 n0 Z0 p2 w hq2 P) hZ (hw _ (List.mem_of_getElem? (i := 3) rfl)) (hw _ (List.mem_of_getElem? (i := 2) rfl)) (by decide) (by decide)) (g := (mkF m 6 #[.val (.int p1), .val (.int p2), .val (.ref (w 2)), .unset, .unset] [(.int p2)])) rfl (by rw [hml]; rfl) (argsL := [(.int p2)]) (rest := []) (lenOf pd0 rfl) rfl (by show 2 * 0 + _ ≤ _; exact Nat.le_of_eq rfl) (hb hby at_6) (fun _ _ => ⟨rfl, e19, (by decide : 0 + 0 ≤ _), (by decide : 0 + 0 ≤ _)⟩)
      dsimp only [Pt.U, Pt.locs, Pt.cells, Pt.slots] at X20 l20 y20 z20 st20 hQ20
      subst l20 y20 z20
      obtain ⟨rfl, Nq20, e20⟩ := hQ20
      have N20 := Fr.app N19 Nq20
      refine Goes.by st20 ?_
      refine Goes.by (fun _ kz => XS.astoreN X20.here hx rfl (hb hby at_9) rfl rfl (l' := #[.val (.int p1), .val (.int p2), .val (.ref (w 2)), .val (.ref (w 0)), .unset]) rfl (XS.aloadN X20.here hx rfl (hb hby at_10) rfl rfl (XS.aloadN X20.here hx rfl (hb hby at_11) rfl rfl kz))) ?_
      show Goes p e below (T20.setTop (mkF m 12 #[.val (.int p1), .val (.int p2), .val (.ref (w 2)), .val (.ref (w 0)), .unset] [(.ref (w 0)), (.ref (w 2))])) _
      refine Goes.by (fun _ kz => Jvm.RoadKit.acmp (g := (mkF m 12 #[.val (.int p1), .val (.int p2), .val (.ref (w 2)), .val (.ref (w 0)), .unset] [(.ref (w 0)), (.ref (w 2))])) X20 hx rfl rfl rfl (pc0 := 12) (pc' := 21) (same := false) rfl (hb hby at_12) rfl (decide_eq_false fun q => (own_ne_2_0 P) (Value.ref.inj q)) (by decide) (by decide) (XS.aloadN X20.here hx rfl (hb hby at_21) rfl rfl kz)) ?_
      obtain ⟨T21, X21, e21, st21⟩ := getS2 X20 hx hZ hown (host := "") (Or.inl (hw _ (List.mem_of_getElem? (i := 5) rfl))) Via.refl e20 P.1 (g := (mkF m 22 #[.val (.int p1), .val (.int p2), .val (.ref (w 2)), .val (.ref (w 0)), .unset] [(.ref (w 2))])) rfl (hb hby at_22)
      refine Goes.by st21 ?_
      refine Goes.by (fun _ kz => Jvm.RoadKit.acmp (g := (mkF m 25 #[.val (.int p1), .val (.int p2), .val (.ref (w 2)), .val (.ref (w 0)), .unset] [(.ref (w 0)), (.ref (w 2))])) X21 hx rfl rfl rfl (pc0 := 25) (pc' := 34) (same := false) rfl (hb hby at_25) rfl (decide_eq_false fun q => (own_ne_2_0 P) (Value.ref.inj q)) (by decide) (by decide) (XS.aloadN X21.here hx rfl (hb hby at_34) rfl rfl kz)) ?_
      obtain ⟨T22, X22, e22, st22⟩ := getS2 X21 hx hZ hown (host := "") (Or.inl (hw _ (List.mem_of_getElem? (i := 5) rfl))) Via.refl e21 P.1 (g := (mkF m 35 #[.val (.int p1), .val (.int p2), .val (.ref (w 2)), .val (.ref (w 0)), .unset] [(.ref (w 0))])) rfl (hb hby at_35)
      refine Goes.by st22 ?_
      refine Goes.by (fun _ kz => Jvm.RoadKit.acmp (g := (mkF m 38 #[.val (.int p1), .val (.int p2), .val (.ref (w 2)), .val (.ref (w 0)), .unset] [(.ref (w 0)), (.ref (w 0))])) X22 hx rfl rfl rfl (pc0 := 38) (pc' := 41) (same := true) rfl (hb hby at_38) rfl (decide_eq_true rfl) (by decide) (by decide) (XS.aloadN X22.here hx rfl (hb hby at_41) rfl rfl (XS.astore X22.here hx rfl (hb hby at_42) rfl rfl (l' := #[.val (.int p1), .val (.int p2), .val (.ref (w 2)), .val (.ref (w 0)), .val (.ref (w 2))]) rfl kz))) ?_
      show Goes p e below (T22.setTop (mkF m 44 #[.val (.int p1), .val (.int p2), .val (.ref (w 2)), .val (.ref (w 0)), .val (.ref (w 2))] [])) _
      refine Goes.by (fun _ kz => XS.goto X22.here hx rfl (pc0 := 44) (pc' := 50) rfl (hb hby at_44) (by decide) (by decide) (XS.aloadN X22.here hx rfl (hb hby at_50) rfl rfl (XS.aloadN X22.here hx rfl (hb hby at_51) rfl rfl kz))) ?_
      obtain ⟨_, _, ⟨T24, L24, k24, n24⟩, -, X24, ⟨Lc24, hQ24, l24, y24, z24⟩, st24⟩ := Jvm.LawKit.callS X22 hx (y := (⟨"com/example/nextkey/nextkey/table/Collation", "common", "(Lcom/example/nextkey/nextkey/table/Collation;Lcom/example/nextkey/nextkey/table/Collation;)Lcom/example/nextkey/nextkey/table/Collation;"⟩ : MethodName)) hown (mvT hZ (hw _ (List.mem_of_getElem? (i := 8) rfl))) (mvT hZ (hw _ (List.mem_of_getElem? (i := 9) rfl))) (mvT hZ (hw _ (List.mem_of_getElem? (i := 6) rfl))) (mvT hZ (hw _ (List.mem_of_getElem? (i := 10) rfl))) (by decide) (backOf (W := 0) (r2_6 l Z a0 hw [] h0 n0 Z0 w P) hZ (hw _ (List.mem_of_getElem? (i := 10) rfl)) (hw _ (List.mem_of_getElem? (i := 6) rfl)) (by decide) (by decide)) (g := (mkF m 52 #[.val (.int p1), .val (.int p2), .val (.ref (w 2)), .val (.ref (w 0)), .val (.ref (w 2))] [(.ref (w 0)), (.ref (w 2))])) rfl (by rw [hml]; rfl) (argsL := [(.ref (w 2)), (.ref (w 0))]) (rest := []) (lenOf pd1 rfl) rfl (by show 2 * 0 + _ ≤ _; exact Nat.le_of_eq rfl) (hb hby at_52) (fun _ _ => ⟨rfl, e22, (by decide : 0 + 0 ≤ _), (by decide : 0 + 0 ≤ _)⟩)
      dsimp only [Pt.U, Pt.locs, Pt.cells, Pt.slots] at X24 l24 y24 z24 st24 hQ24
      subst l24 y24 z24
      obtain ⟨rfl, Nq24, e24⟩ := hQ24
      have N24 := Fr.app N20 Nq24
      refine Goes.by st24 ?_
      refine Goes.by (fun _ kz => XS.aload X24.here hx rfl (hb hby at_55) rfl rfl (Jvm.RoadKit.acmp (g := (mkF m 57 #[.val (.int p1), .val (.int p2), .val (.ref (w 2)), .val (.ref (w 0)), .val (.ref (w 2))] [(.ref (w 2)), (.ref (w 2))])) X24 hx rfl rfl rfl (pc0 := 57) (pc' := 60) (same := true) rfl (hb hby at_57) rfl (decide_eq_true rfl) (by decide) (by decide) (XS.iconst X24.here hx rfl (hb hby at_60) kz))) ?_
      show Goes p e below (T24.setTop (mkF m 61 #[.val (.int p1), .val (.int p2), .val (.ref (w 2)), .val (.ref (w 0)), .val (.ref (w 2))] [(.int (1 : Int32))])) _
      refine Goes.by (fun _ kz => XS.goto X24.here hx rfl (pc0 := 61) (pc' := 65) rfl (hb hby at_61) (by decide) (by decide) kz) ?_
      show Goes p e below (T24.setTop (mkF m 65 #[.val (.int p1), .val (.int p2), .val (.ref (w 2)), .val (.ref (w 0)), .val (.ref (w 2))] [(.int (1 : Int32))])) _
      obtain ⟨fs, hr, hrun, hended, hW, hsame⟩ := X24.leave (v := some (.int (1 : Int32))) (fun h => by rw [Bd.returns] at h; cases h)
      exact ⟨_, _, retN X24 hx (t := .boolean) Bd.returns (by simp) (hb hby at_65) hr, hrun, hended, _, _, rfl, ⟨rfl, N24⟩, ⟨_, rfl⟩, hW, hsame.mono (by decide) (by decide)⟩
    · show Goes p e below (s₁.setTop (mkF m 0 #[.val (.int p1), .val (.int p2), .unset, .unset, .unset] [])) _
      refine Goes.by (fun _ kz => XS.iloadN X0.here hx rfl (hb hby at_0) rfl kz) ?_
      obtain ⟨_, _, ⟨T25, L25, k25, n25⟩, -, X25, ⟨Lc25, hQ25, l25, y25, z25⟩, st25⟩ := Jvm.LawKit.callS X0 hx (y := (⟨"com/example/nextkey/nextkey/table/CollationCommonPinLaw", "pick", "(I)Lcom/example/nextkey/nextkey/table/Collation;"⟩ : MethodName)) hown (mvT hZ (hw _ (List.mem_of_getElem? (i := 0) rfl))) (mvT hZ (hw _ (List.mem_of_getElem? (i := 1) rfl))) (mvT hZ (hw _ (List.mem_of_getElem? (i := 2) rfl))) (mvT hZ (hw _ (List.mem_of_getElem? (i := 3) rfl))) (by decide) (backOf (W := 0) (r1_1 l Z a0 hw [] h0 n0 Z0 p1 w hq1 P) hZ (hw _ (List.mem_of_getElem? (i := 3) rfl)) (hw _ (List.mem_of_getElem? (i := 2) rfl)) (by decide) (by decide)) (g := (mkF m 1 #[.val (.int p1), .val (.int p2), .unset, .unset, .unset] [(.int p1)])) rfl (by rw [hml]; rfl) (argsL := [(.int p1)]) (rest := []) (lenOf pd0 rfl) rfl (by show 2 * 0 + _ ≤ _; exact Nat.le_of_eq rfl) (hb hby at_1) (fun _ _ => ⟨rfl, e0, (by decide : 0 + 0 ≤ _), (by decide : 0 + 0 ≤ _)⟩)
      dsimp only [Pt.U, Pt.locs, Pt.cells, Pt.slots] at X25 l25 y25 z25 st25 hQ25
      subst l25 y25 z25
      obtain ⟨rfl, Nq25, e25⟩ := hQ25
      have N25 := Fr.app N0 Nq25
      refine Goes.by st25 ?_
      refine Goes.by (fun _ kz => XS.astoreN X25.here hx rfl (hb hby at_4) rfl rfl (l' := #[.val (.int p1), .val (.int p2), .val (.ref (w 2)), .unset, .unset]) rfl (XS.iloadN X25.here hx rfl (hb hby at_5) rfl kz)) ?_
      obtain ⟨_, _, ⟨T26, L26, k26, n26⟩, -, X26, ⟨Lc26, hQ26, l26, y26, z26⟩, st26⟩ := Jvm.LawKit.callS X25 hx (y := (⟨"com/example/nextkey/nextkey/table/CollationCommonPinLaw", "pick", "(I)Lcom/example/nextkey/nextkey/table/Collation;"⟩ : MethodName)) hown (mvT hZ (hw _ (List.mem_of_getElem? (i := 0) rfl))) (mvT hZ (hw _ (List.mem_of_getElem? (i := 1) rfl))) (mvT hZ (hw _ (List.mem_of_getElem? (i := 2) rfl))) (mvT hZ (hw _ (List.mem_of_getElem? (i := 3) rfl))) (by decide) (backOf (W := 0) (r1_1 l Z a0 hw [] h0 n0 Z0 p2 w hq2 P) hZ (hw _ (List.mem_of_getElem? (i := 3) rfl)) (hw _ (List.mem_of_getElem? (i := 2) rfl)) (by decide) (by decide)) (g := (mkF m 6 #[.val (.int p1), .val (.int p2), .val (.ref (w 2)), .unset, .unset] [(.int p2)])) rfl (by rw [hml]; rfl) (argsL := [(.int p2)]) (rest := []) (lenOf pd0 rfl) rfl (by show 2 * 0 + _ ≤ _; exact Nat.le_of_eq rfl) (hb hby at_6) (fun _ _ => ⟨rfl, e25, (by decide : 0 + 0 ≤ _), (by decide : 0 + 0 ≤ _)⟩)
      dsimp only [Pt.U, Pt.locs, Pt.cells, Pt.slots] at X26 l26 y26 z26 st26 hQ26
      subst l26 y26 z26
      obtain ⟨rfl, Nq26, e26⟩ := hQ26
      have N26 := Fr.app N25 Nq26
      refine Goes.by st26 ?_
      refine Goes.by (fun _ kz => XS.astoreN X26.here hx rfl (hb hby at_9) rfl rfl (l' := #[.val (.int p1), .val (.int p2), .val (.ref (w 2)), .val (.ref (w 2)), .unset]) rfl (XS.aloadN X26.here hx rfl (hb hby at_10) rfl rfl (XS.aloadN X26.here hx rfl (hb hby at_11) rfl rfl kz))) ?_
      show Goes p e below (T26.setTop (mkF m 12 #[.val (.int p1), .val (.int p2), .val (.ref (w 2)), .val (.ref (w 2)), .unset] [(.ref (w 2)), (.ref (w 2))])) _
      refine Goes.by (fun _ kz => Jvm.RoadKit.acmp (g := (mkF m 12 #[.val (.int p1), .val (.int p2), .val (.ref (w 2)), .val (.ref (w 2)), .unset] [(.ref (w 2)), (.ref (w 2))])) X26 hx rfl rfl rfl (pc0 := 12) (pc' := 15) (same := true) rfl (hb hby at_12) rfl (decide_eq_true rfl) (by decide) (by decide) (XS.aloadN X26.here hx rfl (hb hby at_15) rfl rfl (XS.astore X26.here hx rfl (hb hby at_16) rfl rfl (l' := #[.val (.int p1), .val (.int p2), .val (.ref (w 2)), .val (.ref (w 2)), .val (.ref (w 2))]) rfl kz))) ?_
      show Goes p e below (T26.setTop (mkF m 18 #[.val (.int p1), .val (.int p2), .val (.ref (w 2)), .val (.ref (w 2)), .val (.ref (w 2))] [])) _
      refine Goes.by (fun _ kz => XS.goto X26.here hx rfl (pc0 := 18) (pc' := 50) rfl (hb hby at_18) (by decide) (by decide) (XS.aloadN X26.here hx rfl (hb hby at_50) rfl rfl (XS.aloadN X26.here hx rfl (hb hby at_51) rfl rfl kz))) ?_
      obtain ⟨_, _, ⟨T27, L27, k27, n27⟩, -, X27, ⟨Lc27, hQ27, l27, y27, z27⟩, st27⟩ := Jvm.LawKit.callS X26 hx (y := (⟨"com/example/nextkey/nextkey/table/Collation", "common", "(Lcom/example/nextkey/nextkey/table/Collation;Lcom/example/nextkey/nextkey/table/Collation;)Lcom/example/nextkey/nextkey/table/Collation;"⟩ : MethodName)) hown (mvT hZ (hw _ (List.mem_of_getElem? (i := 8) rfl))) (mvT hZ (hw _ (List.mem_of_getElem? (i := 9) rfl))) (mvT hZ (hw _ (List.mem_of_getElem? (i := 6) rfl))) (mvT hZ (hw _ (List.mem_of_getElem? (i := 10) rfl))) (by decide) (backOf (W := 0) (r2_7 l Z a0 hw [] h0 n0 Z0 w P) hZ (hw _ (List.mem_of_getElem? (i := 10) rfl)) (hw _ (List.mem_of_getElem? (i := 6) rfl)) (by decide) (by decide)) (g := (mkF m 52 #[.val (.int p1), .val (.int p2), .val (.ref (w 2)), .val (.ref (w 2)), .val (.ref (w 2))] [(.ref (w 2)), (.ref (w 2))])) rfl (by rw [hml]; rfl) (argsL := [(.ref (w 2)), (.ref (w 2))]) (rest := []) (lenOf pd1 rfl) rfl (by show 2 * 0 + _ ≤ _; exact Nat.le_of_eq rfl) (hb hby at_52) (fun _ _ => ⟨rfl, e26, (by decide : 0 + 0 ≤ _), (by decide : 0 + 0 ≤ _)⟩)
      dsimp only [Pt.U, Pt.locs, Pt.cells, Pt.slots] at X27 l27 y27 z27 st27 hQ27
      subst l27 y27 z27
      obtain ⟨rfl, Nq27, e27⟩ := hQ27
      have N27 := Fr.app N26 Nq27
      refine Goes.by st27 ?_
      refine Goes.by (fun _ kz => XS.aload X27.here hx rfl (hb hby at_55) rfl rfl (Jvm.RoadKit.acmp (g := (mkF m 57 #[.val (.int p1), .val (.int p2), .val (.ref (w 2)), .val (.ref (w 2)), .val (.ref (w 2))] [(.ref (w 2)), (.ref (w 2))])) X27 hx rfl rfl rfl (pc0 := 57) (pc' := 60) (same := true) rfl (hb hby at_57) rfl (decide_eq_true rfl) (by decide) (by decide) (XS.iconst X27.here hx rfl (hb hby at_60) kz))) ?_
      show Goes p e below (T27.setTop (mkF m 61 #[.val (.int p1), .val (.int p2), .val (.ref (w 2)), .val (.ref (w 2)), .val (.ref (w 2))] [(.int (1 : Int32))])) _
      refine Goes.by (fun _ kz => XS.goto X27.here hx rfl (pc0 := 61) (pc' := 65) rfl (hb hby at_61) (by decide) (by decide) kz) ?_
      show Goes p e below (T27.setTop (mkF m 65 #[.val (.int p1), .val (.int p2), .val (.ref (w 2)), .val (.ref (w 2)), .val (.ref (w 2))] [(.int (1 : Int32))])) _
      obtain ⟨fs, hr, hrun, hended, hW, hsame⟩ := X27.leave (v := some (.int (1 : Int32))) (fun h => by rw [Bd.returns] at h; cases h)
      exact ⟨_, _, retN X27 hx (t := .boolean) Bd.returns (by simp) (hb hby at_65) hr, hrun, hended, _, _, rfl, ⟨rfl, N27⟩, ⟨_, rfl⟩, hW, hsame.mono (by decide) (by decide)⟩
    · show Goes p e below (s₁.setTop (mkF m 0 #[.val (.int p1), .val (.int p2), .unset, .unset, .unset] [])) _
      refine Goes.by (fun _ kz => XS.iloadN X0.here hx rfl (hb hby at_0) rfl kz) ?_
      obtain ⟨_, _, ⟨T28, L28, k28, n28⟩, -, X28, ⟨Lc28, hQ28, l28, y28, z28⟩, st28⟩ := Jvm.LawKit.callS X0 hx (y := (⟨"com/example/nextkey/nextkey/table/CollationCommonPinLaw", "pick", "(I)Lcom/example/nextkey/nextkey/table/Collation;"⟩ : MethodName)) hown (mvT hZ (hw _ (List.mem_of_getElem? (i := 0) rfl))) (mvT hZ (hw _ (List.mem_of_getElem? (i := 1) rfl))) (mvT hZ (hw _ (List.mem_of_getElem? (i := 2) rfl))) (mvT hZ (hw _ (List.mem_of_getElem? (i := 3) rfl))) (by decide) (backOf (W := 0) (r1_1 l Z a0 hw [] h0 n0 Z0 p1 w hq1 P) hZ (hw _ (List.mem_of_getElem? (i := 3) rfl)) (hw _ (List.mem_of_getElem? (i := 2) rfl)) (by decide) (by decide)) (g := (mkF m 1 #[.val (.int p1), .val (.int p2), .unset, .unset, .unset] [(.int p1)])) rfl (by rw [hml]; rfl) (argsL := [(.int p1)]) (rest := []) (lenOf pd0 rfl) rfl (by show 2 * 0 + _ ≤ _; exact Nat.le_of_eq rfl) (hb hby at_1) (fun _ _ => ⟨rfl, e0, (by decide : 0 + 0 ≤ _), (by decide : 0 + 0 ≤ _)⟩)
      dsimp only [Pt.U, Pt.locs, Pt.cells, Pt.slots] at X28 l28 y28 z28 st28 hQ28
      subst l28 y28 z28
      obtain ⟨rfl, Nq28, e28⟩ := hQ28
      have N28 := Fr.app N0 Nq28
      refine Goes.by st28 ?_
      refine Goes.by (fun _ kz => XS.astoreN X28.here hx rfl (hb hby at_4) rfl rfl (l' := #[.val (.int p1), .val (.int p2), .val (.ref (w 2)), .unset, .unset]) rfl (XS.iloadN X28.here hx rfl (hb hby at_5) rfl kz)) ?_
      obtain ⟨_, _, ⟨T29, L29, k29, n29⟩, -, X29, ⟨Lc29, hQ29, l29, y29, z29⟩, st29⟩ := Jvm.LawKit.callS X28 hx (y := (⟨"com/example/nextkey/nextkey/table/CollationCommonPinLaw", "pick", "(I)Lcom/example/nextkey/nextkey/table/Collation;"⟩ : MethodName)) hown (mvT hZ (hw _ (List.mem_of_getElem? (i := 0) rfl))) (mvT hZ (hw _ (List.mem_of_getElem? (i := 1) rfl))) (mvT hZ (hw _ (List.mem_of_getElem? (i := 2) rfl))) (mvT hZ (hw _ (List.mem_of_getElem? (i := 3) rfl))) (by decide) (backOf (W := 0) (r1_2 l Z a0 hw [] h0 n0 Z0 p2 w hq2 P) hZ (hw _ (List.mem_of_getElem? (i := 3) rfl)) (hw _ (List.mem_of_getElem? (i := 2) rfl)) (by decide) (by decide)) (g := (mkF m 6 #[.val (.int p1), .val (.int p2), .val (.ref (w 2)), .unset, .unset] [(.int p2)])) rfl (by rw [hml]; rfl) (argsL := [(.int p2)]) (rest := []) (lenOf pd0 rfl) rfl (by show 2 * 0 + _ ≤ _; exact Nat.le_of_eq rfl) (hb hby at_6) (fun _ _ => ⟨rfl, e28, (by decide : 0 + 0 ≤ _), (by decide : 0 + 0 ≤ _)⟩)
      dsimp only [Pt.U, Pt.locs, Pt.cells, Pt.slots] at X29 l29 y29 z29 st29 hQ29
      subst l29 y29 z29
      obtain ⟨rfl, Nq29, e29⟩ := hQ29
      have N29 := Fr.app N28 Nq29
      refine Goes.by st29 ?_
      refine Goes.by (fun _ kz => XS.astoreN X29.here hx rfl (hb hby at_9) rfl rfl (l' := #[.val (.int p1), .val (.int p2), .val (.ref (w 2)), .val (.ref (w 1)), .unset]) rfl (XS.aloadN X29.here hx rfl (hb hby at_10) rfl rfl (XS.aloadN X29.here hx rfl (hb hby at_11) rfl rfl kz))) ?_
      show Goes p e below (T29.setTop (mkF m 12 #[.val (.int p1), .val (.int p2), .val (.ref (w 2)), .val (.ref (w 1)), .unset] [(.ref (w 1)), (.ref (w 2))])) _
      refine Goes.by (fun _ kz => Jvm.RoadKit.acmp (g := (mkF m 12 #[.val (.int p1), .val (.int p2), .val (.ref (w 2)), .val (.ref (w 1)), .unset] [(.ref (w 1)), (.ref (w 2))])) X29 hx rfl rfl rfl (pc0 := 12) (pc' := 21) (same := false) rfl (hb hby at_12) rfl (decide_eq_false fun q => (Ne.symm (own_ne_1_2 P)) (Value.ref.inj q)) (by decide) (by decide) (XS.aloadN X29.here hx rfl (hb hby at_21) rfl rfl kz)) ?_
      obtain ⟨T30, X30, e30, st30⟩ := getS2 X29 hx hZ hown (host := "") (Or.inl (hw _ (List.mem_of_getElem? (i := 5) rfl))) Via.refl e29 P.1 (g := (mkF m 22 #[.val (.int p1), .val (.int p2), .val (.ref (w 2)), .val (.ref (w 1)), .unset] [(.ref (w 2))])) rfl (hb hby at_22)
      refine Goes.by st30 ?_
      refine Goes.by (fun _ kz => Jvm.RoadKit.acmp (g := (mkF m 25 #[.val (.int p1), .val (.int p2), .val (.ref (w 2)), .val (.ref (w 1)), .unset] [(.ref (w 0)), (.ref (w 2))])) X30 hx rfl rfl rfl (pc0 := 25) (pc' := 34) (same := false) rfl (hb hby at_25) rfl (decide_eq_false fun q => (own_ne_2_0 P) (Value.ref.inj q)) (by decide) (by decide) (XS.aloadN X30.here hx rfl (hb hby at_34) rfl rfl kz)) ?_
      obtain ⟨T31, X31, e31, st31⟩ := getS2 X30 hx hZ hown (host := "") (Or.inl (hw _ (List.mem_of_getElem? (i := 5) rfl))) Via.refl e30 P.1 (g := (mkF m 35 #[.val (.int p1), .val (.int p2), .val (.ref (w 2)), .val (.ref (w 1)), .unset] [(.ref (w 1))])) rfl (hb hby at_35)
      refine Goes.by st31 ?_
      refine Goes.by (fun _ kz => Jvm.RoadKit.acmp (g := (mkF m 38 #[.val (.int p1), .val (.int p2), .val (.ref (w 2)), .val (.ref (w 1)), .unset] [(.ref (w 0)), (.ref (w 1))])) X31 hx rfl rfl rfl (pc0 := 38) (pc' := 47) (same := false) rfl (hb hby at_38) rfl (decide_eq_false fun q => (own_ne_1_0 P) (Value.ref.inj q)) (by decide) (by decide) (XS.aconstNull X31.here hx rfl (hb hby at_47) (XS.astore X31.here hx rfl (hb hby at_48) rfl rfl (l' := #[.val (.int p1), .val (.int p2), .val (.ref (w 2)), .val (.ref (w 1)), .val .null]) rfl kz))) ?_
      show Goes p e below (T31.setTop (mkF m 50 #[.val (.int p1), .val (.int p2), .val (.ref (w 2)), .val (.ref (w 1)), .val .null] [])) _
      refine Goes.by (fun _ kz => XS.aloadN X31.here hx rfl (hb hby at_50) rfl rfl (XS.aloadN X31.here hx rfl (hb hby at_51) rfl rfl kz)) ?_
      obtain ⟨_, _, ⟨T34, L34, k34, n34⟩, -, X34, ⟨Lc34, hQ34, l34, y34, z34⟩, st34⟩ := Jvm.LawKit.callS X31 hx (y := (⟨"com/example/nextkey/nextkey/table/Collation", "common", "(Lcom/example/nextkey/nextkey/table/Collation;Lcom/example/nextkey/nextkey/table/Collation;)Lcom/example/nextkey/nextkey/table/Collation;"⟩ : MethodName)) hown (mvT hZ (hw _ (List.mem_of_getElem? (i := 8) rfl))) (mvT hZ (hw _ (List.mem_of_getElem? (i := 9) rfl))) (mvT hZ (hw _ (List.mem_of_getElem? (i := 6) rfl))) (mvT hZ (hw _ (List.mem_of_getElem? (i := 10) rfl))) (by decide) (backOf (W := 0) (r2_8 l Z a0 hw [] h0 n0 Z0 w P) hZ (hw _ (List.mem_of_getElem? (i := 10) rfl)) (hw _ (List.mem_of_getElem? (i := 6) rfl)) (by decide) (by decide)) (g := (mkF m 52 #[.val (.int p1), .val (.int p2), .val (.ref (w 2)), .val (.ref (w 1)), .val .null] [(.ref (w 1)), (.ref (w 2))])) rfl (by rw [hml]; rfl) (argsL := [(.ref (w 2)), (.ref (w 1))]) (rest := []) (lenOf pd1 rfl) rfl (by show 2 * 0 + _ ≤ _; exact Nat.le_of_eq rfl) (hb hby at_52) (fun _ _ => ⟨rfl, e31, (by decide : 0 + 0 ≤ _), (by decide : 0 + 0 ≤ _)⟩)
      dsimp only [Pt.U, Pt.locs, Pt.cells, Pt.slots] at X34 l34 y34 z34 st34 hQ34
      subst l34 y34 z34
      obtain ⟨rfl, Nq34, e34⟩ := hQ34
      have N34 := Fr.app N29 Nq34
      refine Goes.by st34 ?_
      refine Goes.by (fun _ kz => XS.aload X34.here hx rfl (hb hby at_55) rfl rfl (Jvm.RoadKit.acmp (g := (mkF m 57 #[.val (.int p1), .val (.int p2), .val (.ref (w 2)), .val (.ref (w 1)), .val .null] [.null, .null])) X34 hx rfl rfl rfl (pc0 := 57) (pc' := 60) (same := true) rfl (hb hby at_57) rfl (decide_eq_true rfl) (by decide) (by decide) (XS.iconst X34.here hx rfl (hb hby at_60) kz))) ?_
      show Goes p e below (T34.setTop (mkF m 61 #[.val (.int p1), .val (.int p2), .val (.ref (w 2)), .val (.ref (w 1)), .val .null] [(.int (1 : Int32))])) _
      refine Goes.by (fun _ kz => XS.goto X34.here hx rfl (pc0 := 61) (pc' := 65) rfl (hb hby at_61) (by decide) (by decide) kz) ?_
      show Goes p e below (T34.setTop (mkF m 65 #[.val (.int p1), .val (.int p2), .val (.ref (w 2)), .val (.ref (w 1)), .val .null] [(.int (1 : Int32))])) _
      obtain ⟨fs, hr, hrun, hended, hW, hsame⟩ := X34.leave (v := some (.int (1 : Int32))) (fun h => by rw [Bd.returns] at h; cases h)
      exact ⟨_, _, retN X34 hx (t := .boolean) Bd.returns (by simp) (hb hby at_65) hr, hrun, hended, _, _, rfl, ⟨rfl, N34⟩, ⟨_, rfl⟩, hW, hsame.mono (by decide) (by decide)⟩
  · rcases own_split p2 with hq2 | hq2 | hq2
    · show Goes p e below (s₁.setTop (mkF m 0 #[.val (.int p1), .val (.int p2), .unset, .unset, .unset] [])) _
      refine Goes.by (fun _ kz => XS.iloadN X0.here hx rfl (hb hby at_0) rfl kz) ?_
      obtain ⟨_, _, ⟨T35, L35, k35, n35⟩, -, X35, ⟨Lc35, hQ35, l35, y35, z35⟩, st35⟩ := Jvm.LawKit.callS X0 hx (y := (⟨"com/example/nextkey/nextkey/table/CollationCommonPinLaw", "pick", "(I)Lcom/example/nextkey/nextkey/table/Collation;"⟩ : MethodName)) hown (mvT hZ (hw _ (List.mem_of_getElem? (i := 0) rfl))) (mvT hZ (hw _ (List.mem_of_getElem? (i := 1) rfl))) (mvT hZ (hw _ (List.mem_of_getElem? (i := 2) rfl))) (mvT hZ (hw _ (List.mem_of_getElem? (i := 3) rfl))) (by decide) (backOf (W := 0) (r1_2 l Z a0 hw [] h0 n0 Z0 p1 w hq1 P) hZ (hw _ (List.mem_of_getElem? (i := 3) rfl)) (hw _ (List.mem_of_getElem? (i := 2) rfl)) (by decide) (by decide)) (g := (mkF m 1 #[.val (.int p1), .val (.int p2), .unset, .unset, .unset] [(.int p1)])) rfl (by rw [hml]; rfl) (argsL := [(.int p1)]) (rest := []) (lenOf pd0 rfl) rfl (by show 2 * 0 + _ ≤ _; exact Nat.le_of_eq rfl) (hb hby at_1) (fun _ _ => ⟨rfl, e0, (by decide : 0 + 0 ≤ _), (by decide : 0 + 0 ≤ _)⟩)
      dsimp only [Pt.U, Pt.locs, Pt.cells, Pt.slots] at X35 l35 y35 z35 st35 hQ35
      subst l35 y35 z35
      obtain ⟨rfl, Nq35, e35⟩ := hQ35
      have N35 := Fr.app N0 Nq35
      refine Goes.by st35 ?_
      refine Goes.by (fun _ kz => XS.astoreN X35.here hx rfl (hb hby at_4) rfl rfl (l' := #[.val (.int p1), .val (.int p2), .val (.ref (w 1)), .unset, .unset]) rfl (XS.iloadN X35.here hx rfl (hb hby at_5) rfl kz)) ?_
      obtain ⟨_, _, ⟨T36, L36, k36, n36⟩, -, X36, ⟨Lc36, hQ36, l36, y36, z36⟩, st36⟩ := Jvm.LawKit.callS X35 hx (y := (⟨"com/example/nextkey/nextkey/table/CollationCommonPinLaw", "pick", "(I)Lcom/example/nextkey/nextkey/table/Collation;"⟩ : MethodName)) hown (mvT hZ (hw _ (List.mem_of_getElem? (i := 0) rfl))) (mvT hZ (hw _ (List.mem_of_getElem? (i := 1) rfl))) (mvT hZ (hw _ (List.mem_of_getElem? (i := 2) rfl))) (mvT hZ (hw _ (List.mem_of_getElem? (i := 3) rfl))) (by decide) (backOf (W := 0) (r1_0 l Z a0 hw [] h0 n0 Z0 p2 w hq2 P) hZ (hw _ (List.mem_of_getElem? (i := 3) rfl)) (hw _ (List.mem_of_getElem? (i := 2) rfl)) (by decide) (by decide)) (g := (mkF m 6 #[.val (.int p1), .val (.int p2), .val (.ref (w 1)), .unset, .unset] [(.int p2)])) rfl (by rw [hml]; rfl) (argsL := [(.int p2)]) (rest := []) (lenOf pd0 rfl) rfl (by show 2 * 0 + _ ≤ _; exact Nat.le_of_eq rfl) (hb hby at_6) (fun _ _ => ⟨rfl, e35, (by decide : 0 + 0 ≤ _), (by decide : 0 + 0 ≤ _)⟩)
      dsimp only [Pt.U, Pt.locs, Pt.cells, Pt.slots] at X36 l36 y36 z36 st36 hQ36
      subst l36 y36 z36
      obtain ⟨rfl, Nq36, e36⟩ := hQ36
      have N36 := Fr.app N35 Nq36
      refine Goes.by st36 ?_
      refine Goes.by (fun _ kz => XS.astoreN X36.here hx rfl (hb hby at_9) rfl rfl (l' := #[.val (.int p1), .val (.int p2), .val (.ref (w 1)), .val (.ref (w 0)), .unset]) rfl (XS.aloadN X36.here hx rfl (hb hby at_10) rfl rfl (XS.aloadN X36.here hx rfl (hb hby at_11) rfl rfl kz))) ?_
      show Goes p e below (T36.setTop (mkF m 12 #[.val (.int p1), .val (.int p2), .val (.ref (w 1)), .val (.ref (w 0)), .unset] [(.ref (w 0)), (.ref (w 1))])) _
      refine Goes.by (fun _ kz => Jvm.RoadKit.acmp (g := (mkF m 12 #[.val (.int p1), .val (.int p2), .val (.ref (w 1)), .val (.ref (w 0)), .unset] [(.ref (w 0)), (.ref (w 1))])) X36 hx rfl rfl rfl (pc0 := 12) (pc' := 21) (same := false) rfl (hb hby at_12) rfl (decide_eq_false fun q => (own_ne_1_0 P) (Value.ref.inj q)) (by decide) (by decide) (XS.aloadN X36.here hx rfl (hb hby at_21) rfl rfl kz)) ?_
      obtain ⟨T37, X37, e37, st37⟩ := getS2 X36 hx hZ hown (host := "") (Or.inl (hw _ (List.mem_of_getElem? (i := 5) rfl))) Via.refl e36 P.1 (g := (mkF m 22 #[.val (.int p1), .val (.int p2), .val (.ref (w 1)), .val (.ref (w 0)), .unset] [(.ref (w 1))])) rfl (hb hby at_22)
      refine Goes.by st37 ?_
      refine Goes.by (fun _ kz => Jvm.RoadKit.acmp (g := (mkF m 25 #[.val (.int p1), .val (.int p2), .val (.ref (w 1)), .val (.ref (w 0)), .unset] [(.ref (w 0)), (.ref (w 1))])) X37 hx rfl rfl rfl (pc0 := 25) (pc' := 34) (same := false) rfl (hb hby at_25) rfl (decide_eq_false fun q => (own_ne_1_0 P) (Value.ref.inj q)) (by decide) (by decide) (XS.aloadN X37.here hx rfl (hb hby at_34) rfl rfl kz)) ?_
      obtain ⟨T38, X38, e38, st38⟩ := getS2 X37 hx hZ hown (host := "") (Or.inl (hw _ (List.mem_of_getElem? (i := 5) rfl))) Via.refl e37 P.1 (g := (mkF m 35 #[.val (.int p1), .val (.int p2), .val (.ref (w 1)), .val (.ref (w 0)), .unset] [(.ref (w 0))])) rfl (hb hby at_35)
      refine Goes.by st38 ?_
      refine Goes.by (fun _ kz => Jvm.RoadKit.acmp (g := (mkF m 38 #[.val (.int p1), .val (.int p2), .val (.ref (w 1)), .val (.ref (w 0)), .unset] [(.ref (w 0)), (.ref (w 0))])) X38 hx rfl rfl rfl (pc0 := 38) (pc' := 41) (same := true) rfl (hb hby at_38) rfl (decide_eq_true rfl) (by decide) (by decide) (XS.aloadN X38.here hx rfl (hb hby at_41) rfl rfl (XS.astore X38.here hx rfl (hb hby at_42) rfl rfl (l' := #[.val (.int p1), .val (.int p2), .val (.ref (w 1)), .val (.ref (w 0)), .val (.ref (w 1))]) rfl kz))) ?_
      show Goes p e below (T38.setTop (mkF m 44 #[.val (.int p1), .val (.int p2), .val (.ref (w 1)), .val (.ref (w 0)), .val (.ref (w 1))] [])) _
      refine Goes.by (fun _ kz => XS.goto X38.here hx rfl (pc0 := 44) (pc' := 50) rfl (hb hby at_44) (by decide) (by decide) (XS.aloadN X38.here hx rfl (hb hby at_50) rfl rfl (XS.aloadN X38.here hx rfl (hb hby at_51) rfl rfl kz))) ?_
      obtain ⟨_, _, ⟨T40, L40, k40, n40⟩, -, X40, ⟨Lc40, hQ40, l40, y40, z40⟩, st40⟩ := Jvm.LawKit.callS X38 hx (y := (⟨"com/example/nextkey/nextkey/table/Collation", "common", "(Lcom/example/nextkey/nextkey/table/Collation;Lcom/example/nextkey/nextkey/table/Collation;)Lcom/example/nextkey/nextkey/table/Collation;"⟩ : MethodName)) hown (mvT hZ (hw _ (List.mem_of_getElem? (i := 8) rfl))) (mvT hZ (hw _ (List.mem_of_getElem? (i := 9) rfl))) (mvT hZ (hw _ (List.mem_of_getElem? (i := 6) rfl))) (mvT hZ (hw _ (List.mem_of_getElem? (i := 10) rfl))) (by decide) (backOf (W := 0) (r2_9 l Z a0 hw [] h0 n0 Z0 w P) hZ (hw _ (List.mem_of_getElem? (i := 10) rfl)) (hw _ (List.mem_of_getElem? (i := 6) rfl)) (by decide) (by decide)) (g := (mkF m 52 #[.val (.int p1), .val (.int p2), .val (.ref (w 1)), .val (.ref (w 0)), .val (.ref (w 1))] [(.ref (w 0)), (.ref (w 1))])) rfl (by rw [hml]; rfl) (argsL := [(.ref (w 1)), (.ref (w 0))]) (rest := []) (lenOf pd1 rfl) rfl (by show 2 * 0 + _ ≤ _; exact Nat.le_of_eq rfl) (hb hby at_52) (fun _ _ => ⟨rfl, e38, (by decide : 0 + 0 ≤ _), (by decide : 0 + 0 ≤ _)⟩)
      dsimp only [Pt.U, Pt.locs, Pt.cells, Pt.slots] at X40 l40 y40 z40 st40 hQ40
      subst l40 y40 z40
      obtain ⟨rfl, Nq40, e40⟩ := hQ40
      have N40 := Fr.app N36 Nq40
      refine Goes.by st40 ?_
      refine Goes.by (fun _ kz => XS.aload X40.here hx rfl (hb hby at_55) rfl rfl (Jvm.RoadKit.acmp (g := (mkF m 57 #[.val (.int p1), .val (.int p2), .val (.ref (w 1)), .val (.ref (w 0)), .val (.ref (w 1))] [(.ref (w 1)), (.ref (w 1))])) X40 hx rfl rfl rfl (pc0 := 57) (pc' := 60) (same := true) rfl (hb hby at_57) rfl (decide_eq_true rfl) (by decide) (by decide) (XS.iconst X40.here hx rfl (hb hby at_60) kz))) ?_
      show Goes p e below (T40.setTop (mkF m 61 #[.val (.int p1), .val (.int p2), .val (.ref (w 1)), .val (.ref (w 0)), .val (.ref (w 1))] [(.int (1 : Int32))])) _
      refine Goes.by (fun _ kz => XS.goto X40.here hx rfl (pc0 := 61) (pc' := 65) rfl (hb hby at_61) (by decide) (by decide) kz) ?_
      show Goes p e below (T40.setTop (mkF m 65 #[.val (.int p1), .val (.int p2), .val (.ref (w 1)), .val (.ref (w 0)), .val (.ref (w 1))] [(.int (1 : Int32))])) _
      obtain ⟨fs, hr, hrun, hended, hW, hsame⟩ := X40.leave (v := some (.int (1 : Int32))) (fun h => by rw [Bd.returns] at h; cases h)
      exact ⟨_, _, retN X40 hx (t := .boolean) Bd.returns (by simp) (hb hby at_65) hr, hrun, hended, _, _, rfl, ⟨rfl, N40⟩, ⟨_, rfl⟩, hW, hsame.mono (by decide) (by decide)⟩
    · show Goes p e below (s₁.setTop (mkF m 0 #[.val (.int p1), .val (.int p2), .unset, .unset, .unset] [])) _
      refine Goes.by (fun _ kz => XS.iloadN X0.here hx rfl (hb hby at_0) rfl kz) ?_
      obtain ⟨_, _, ⟨T41, L41, k41, n41⟩, -, X41, ⟨Lc41, hQ41, l41, y41, z41⟩, st41⟩ := Jvm.LawKit.callS X0 hx (y := (⟨"com/example/nextkey/nextkey/table/CollationCommonPinLaw", "pick", "(I)Lcom/example/nextkey/nextkey/table/Collation;"⟩ : MethodName)) hown (mvT hZ (hw _ (List.mem_of_getElem? (i := 0) rfl))) (mvT hZ (hw _ (List.mem_of_getElem? (i := 1) rfl))) (mvT hZ (hw _ (List.mem_of_getElem? (i := 2) rfl))) (mvT hZ (hw _ (List.mem_of_getElem? (i := 3) rfl))) (by decide) (backOf (W := 0) (r1_2 l Z a0 hw [] h0 n0 Z0 p1 w hq1 P) hZ (hw _ (List.mem_of_getElem? (i := 3) rfl)) (hw _ (List.mem_of_getElem? (i := 2) rfl)) (by decide) (by decide)) (g := (mkF m 1 #[.val (.int p1), .val (.int p2), .unset, .unset, .unset] [(.int p1)])) rfl (by rw [hml]; rfl) (argsL := [(.int p1)]) (rest := []) (lenOf pd0 rfl) rfl (by show 2 * 0 + _ ≤ _; exact Nat.le_of_eq rfl) (hb hby at_1) (fun _ _ => ⟨rfl, e0, (by decide : 0 + 0 ≤ _), (by decide : 0 + 0 ≤ _)⟩)
      dsimp only [Pt.U, Pt.locs, Pt.cells, Pt.slots] at X41 l41 y41 z41 st41 hQ41
      subst l41 y41 z41
      obtain ⟨rfl, Nq41, e41⟩ := hQ41
      have N41 := Fr.app N0 Nq41
      refine Goes.by st41 ?_
      refine Goes.by (fun _ kz => XS.astoreN X41.here hx rfl (hb hby at_4) rfl rfl (l' := #[.val (.int p1), .val (.int p2), .val (.ref (w 1)), .unset, .unset]) rfl (XS.iloadN X41.here hx rfl (hb hby at_5) rfl kz)) ?_
      obtain ⟨_, _, ⟨T42, L42, k42, n42⟩, -, X42, ⟨Lc42, hQ42, l42, y42, z42⟩, st42⟩ := Jvm.LawKit.callS X41 hx (y := (⟨"com/example/nextkey/nextkey/table/CollationCommonPinLaw", "pick", "(I)Lcom/example/nextkey/nextkey/table/Collation;"⟩ : MethodName)) hown (mvT hZ (hw _ (List.mem_of_getElem? (i := 0) rfl))) (mvT hZ (hw _ (List.mem_of_getElem? (i := 1) rfl))) (mvT hZ (hw _ (List.mem_of_getElem? (i := 2) rfl))) (mvT hZ (hw _ (List.mem_of_getElem? (i := 3) rfl))) (by decide) (backOf (W := 0) (r1_1 l Z a0 hw [] h0 n0 Z0 p2 w hq2 P) hZ (hw _ (List.mem_of_getElem? (i := 3) rfl)) (hw _ (List.mem_of_getElem? (i := 2) rfl)) (by decide) (by decide)) (g := (mkF m 6 #[.val (.int p1), .val (.int p2), .val (.ref (w 1)), .unset, .unset] [(.int p2)])) rfl (by rw [hml]; rfl) (argsL := [(.int p2)]) (rest := []) (lenOf pd0 rfl) rfl (by show 2 * 0 + _ ≤ _; exact Nat.le_of_eq rfl) (hb hby at_6) (fun _ _ => ⟨rfl, e41, (by decide : 0 + 0 ≤ _), (by decide : 0 + 0 ≤ _)⟩)
      dsimp only [Pt.U, Pt.locs, Pt.cells, Pt.slots] at X42 l42 y42 z42 st42 hQ42
      subst l42 y42 z42
      obtain ⟨rfl, Nq42, e42⟩ := hQ42
      have N42 := Fr.app N41 Nq42
      refine Goes.by st42 ?_
      refine Goes.by (fun _ kz => XS.astoreN X42.here hx rfl (hb hby at_9) rfl rfl (l' := #[.val (.int p1), .val (.int p2), .val (.ref (w 1)), .val (.ref (w 2)), .unset]) rfl (XS.aloadN X42.here hx rfl (hb hby at_10) rfl rfl (XS.aloadN X42.here hx rfl (hb hby at_11) rfl rfl kz))) ?_
      show Goes p e below (T42.setTop (mkF m 12 #[.val (.int p1), .val (.int p2), .val (.ref (w 1)), .val (.ref (w 2)), .unset] [(.ref (w 2)), (.ref (w 1))])) _
      refine Goes.by (fun _ kz => Jvm.RoadKit.acmp (g := (mkF m 12 #[.val (.int p1), .val (.int p2), .val (.ref (w 1)), .val (.ref (w 2)), .unset] [(.ref (w 2)), (.ref (w 1))])) X42 hx rfl rfl rfl (pc0 := 12) (pc' := 21) (same := false) rfl (hb hby at_12) rfl (decide_eq_false fun q => (own_ne_1_2 P) (Value.ref.inj q)) (by decide) (by decide) (XS.aloadN X42.here hx rfl (hb hby at_21) rfl rfl kz)) ?_
      obtain ⟨T43, X43, e43, st43⟩ := getS2 X42 hx hZ hown (host := "") (Or.inl (hw _ (List.mem_of_getElem? (i := 5) rfl))) Via.refl e42 P.1 (g := (mkF m 22 #[.val (.int p1), .val (.int p2), .val (.ref (w 1)), .val (.ref (w 2)), .unset] [(.ref (w 1))])) rfl (hb hby at_22)
      refine Goes.by st43 ?_
      refine Goes.by (fun _ kz => Jvm.RoadKit.acmp (g := (mkF m 25 #[.val (.int p1), .val (.int p2), .val (.ref (w 1)), .val (.ref (w 2)), .unset] [(.ref (w 0)), (.ref (w 1))])) X43 hx rfl rfl rfl (pc0 := 25) (pc' := 34) (same := false) rfl (hb hby at_25) rfl (decide_eq_false fun q => (own_ne_1_0 P) (Value.ref.inj q)) (by decide) (by decide) (XS.aloadN X43.here hx rfl (hb hby at_34) rfl rfl kz)) ?_
      obtain ⟨T44, X44, e44, st44⟩ := getS2 X43 hx hZ hown (host := "") (Or.inl (hw _ (List.mem_of_getElem? (i := 5) rfl))) Via.refl e43 P.1 (g := (mkF m 35 #[.val (.int p1), .val (.int p2), .val (.ref (w 1)), .val (.ref (w 2)), .unset] [(.ref (w 2))])) rfl (hb hby at_35)
      refine Goes.by st44 ?_
      refine Goes.by (fun _ kz => Jvm.RoadKit.acmp (g := (mkF m 38 #[.val (.int p1), .val (.int p2), .val (.ref (w 1)), .val (.ref (w 2)), .unset] [(.ref (w 0)), (.ref (w 2))])) X44 hx rfl rfl rfl (pc0 := 38) (pc' := 47) (same := false) rfl (hb hby at_38) rfl (decide_eq_false fun q => (own_ne_2_0 P) (Value.ref.inj q)) (by decide) (by decide) (XS.aconstNull X44.here hx rfl (hb hby at_47) (XS.astore X44.here hx rfl (hb hby at_48) rfl rfl (l' := #[.val (.int p1), .val (.int p2), .val (.ref (w 1)), .val (.ref (w 2)), .val .null]) rfl kz))) ?_
      show Goes p e below (T44.setTop (mkF m 50 #[.val (.int p1), .val (.int p2), .val (.ref (w 1)), .val (.ref (w 2)), .val .null] [])) _
      refine Goes.by (fun _ kz => XS.aloadN X44.here hx rfl (hb hby at_50) rfl rfl (XS.aloadN X44.here hx rfl (hb hby at_51) rfl rfl kz)) ?_
      obtain ⟨_, _, ⟨T47, L47, k47, n47⟩, -, X47, ⟨Lc47, hQ47, l47, y47, z47⟩, st47⟩ := Jvm.LawKit.callS X44 hx (y := (⟨"com/example/nextkey/nextkey/table/Collation", "common", "(Lcom/example/nextkey/nextkey/table/Collation;Lcom/example/nextkey/nextkey/table/Collation;)Lcom/example/nextkey/nextkey/table/Collation;"⟩ : MethodName)) hown (mvT hZ (hw _ (List.mem_of_getElem? (i := 8) rfl))) (mvT hZ (hw _ (List.mem_of_getElem? (i := 9) rfl))) (mvT hZ (hw _ (List.mem_of_getElem? (i := 6) rfl))) (mvT hZ (hw _ (List.mem_of_getElem? (i := 10) rfl))) (by decide) (backOf (W := 0) (r2_10 l Z a0 hw [] h0 n0 Z0 w P) hZ (hw _ (List.mem_of_getElem? (i := 10) rfl)) (hw _ (List.mem_of_getElem? (i := 6) rfl)) (by decide) (by decide)) (g := (mkF m 52 #[.val (.int p1), .val (.int p2), .val (.ref (w 1)), .val (.ref (w 2)), .val .null] [(.ref (w 2)), (.ref (w 1))])) rfl (by rw [hml]; rfl) (argsL := [(.ref (w 1)), (.ref (w 2))]) (rest := []) (lenOf pd1 rfl) rfl (by show 2 * 0 + _ ≤ _; exact Nat.le_of_eq rfl) (hb hby at_52) (fun _ _ => ⟨rfl, e44, (by decide : 0 + 0 ≤ _), (by decide : 0 + 0 ≤ _)⟩)
      dsimp only [Pt.U, Pt.locs, Pt.cells, Pt.slots] at X47 l47 y47 z47 st47 hQ47
      subst l47 y47 z47
      obtain ⟨rfl, Nq47, e47⟩ := hQ47
      have N47 := Fr.app N42 Nq47
      refine Goes.by st47 ?_
      refine Goes.by (fun _ kz => XS.aload X47.here hx rfl (hb hby at_55) rfl rfl (Jvm.RoadKit.acmp (g := (mkF m 57 #[.val (.int p1), .val (.int p2), .val (.ref (w 1)), .val (.ref (w 2)), .val .null] [.null, .null])) X47 hx rfl rfl rfl (pc0 := 57) (pc' := 60) (same := true) rfl (hb hby at_57) rfl (decide_eq_true rfl) (by decide) (by decide) (XS.iconst X47.here hx rfl (hb hby at_60) kz))) ?_
      show Goes p e below (T47.setTop (mkF m 61 #[.val (.int p1), .val (.int p2), .val (.ref (w 1)), .val (.ref (w 2)), .val .null] [(.int (1 : Int32))])) _
      refine Goes.by (fun _ kz => XS.goto X47.here hx rfl (pc0 := 61) (pc' := 65) rfl (hb hby at_61) (by decide) (by decide) kz) ?_
      show Goes p e below (T47.setTop (mkF m 65 #[.val (.int p1), .val (.int p2), .val (.ref (w 1)), .val (.ref (w 2)), .val .null] [(.int (1 : Int32))])) _
      obtain ⟨fs, hr, hrun, hended, hW, hsame⟩ := X47.leave (v := some (.int (1 : Int32))) (fun h => by rw [Bd.returns] at h; cases h)
      exact ⟨_, _, retN X47 hx (t := .boolean) Bd.returns (by simp) (hb hby at_65) hr, hrun, hended, _, _, rfl, ⟨rfl, N47⟩, ⟨_, rfl⟩, hW, hsame.mono (by decide) (by decide)⟩
    · show Goes p e below (s₁.setTop (mkF m 0 #[.val (.int p1), .val (.int p2), .unset, .unset, .unset] [])) _
      refine Goes.by (fun _ kz => XS.iloadN X0.here hx rfl (hb hby at_0) rfl kz) ?_
      obtain ⟨_, _, ⟨T48, L48, k48, n48⟩, -, X48, ⟨Lc48, hQ48, l48, y48, z48⟩, st48⟩ := Jvm.LawKit.callS X0 hx (y := (⟨"com/example/nextkey/nextkey/table/CollationCommonPinLaw", "pick", "(I)Lcom/example/nextkey/nextkey/table/Collation;"⟩ : MethodName)) hown (mvT hZ (hw _ (List.mem_of_getElem? (i := 0) rfl))) (mvT hZ (hw _ (List.mem_of_getElem? (i := 1) rfl))) (mvT hZ (hw _ (List.mem_of_getElem? (i := 2) rfl))) (mvT hZ (hw _ (List.mem_of_getElem? (i := 3) rfl))) (by decide) (backOf (W := 0) (r1_2 l Z a0 hw [] h0 n0 Z0 p1 w hq1 P) hZ (hw _ (List.mem_of_getElem? (i := 3) rfl)) (hw _ (List.mem_of_getElem? (i := 2) rfl)) (by decide) (by decide)) (g := (mkF m 1 #[.val (.int p1), .val (.int p2), .unset, .unset, .unset] [(.int p1)])) rfl (by rw [hml]; rfl) (argsL := [(.int p1)]) (rest := []) (lenOf pd0 rfl) rfl (by show 2 * 0 + _ ≤ _; exact Nat.le_of_eq rfl) (hb hby at_1) (fun _ _ => ⟨rfl, e0, (by decide : 0 + 0 ≤ _), (by decide : 0 + 0 ≤ _)⟩)
      dsimp only [Pt.U, Pt.locs, Pt.cells, Pt.slots] at X48 l48 y48 z48 st48 hQ48
      subst l48 y48 z48
      obtain ⟨rfl, Nq48, e48⟩ := hQ48
      have N48 := Fr.app N0 Nq48
      refine Goes.by st48 ?_
      refine Goes.by (fun _ kz => XS.astoreN X48.here hx rfl (hb hby at_4) rfl rfl (l' := #[.val (.int p1), .val (.int p2), .val (.ref (w 1)), .unset, .unset]) rfl (XS.iloadN X48.here hx rfl (hb hby at_5) rfl kz)) ?_
      obtain ⟨_, _, ⟨T49, L49, k49, n49⟩, -, X49, ⟨Lc49, hQ49, l49, y49, z49⟩, st49⟩ := Jvm.LawKit.callS X48 hx (y := (⟨"com/example/nextkey/nextkey/table/CollationCommonPinLaw", "pick", "(I)Lcom/example/nextkey/nextkey/table/Collation;"⟩ : MethodName)) hown (mvT hZ (hw _ (List.mem_of_getElem? (i := 0) rfl))) (mvT hZ (hw _ (List.mem_of_getElem? (i := 1) rfl))) (mvT hZ (hw _ (List.mem_of_getElem? (i := 2) rfl))) (mvT hZ (hw _ (List.mem_of_getElem? (i := 3) rfl))) (by decide) (backOf (W := 0) (r1_2 l Z a0 hw [] h0 n0 Z0 p2 w hq2 P) hZ (hw _ (List.mem_of_getElem? (i := 3) rfl)) (hw _ (List.mem_of_getElem? (i := 2) rfl)) (by decide) (by decide)) (g := (mkF m 6 #[.val (.int p1), .val (.int p2), .val (.ref (w 1)), .unset, .unset] [(.int p2)])) rfl (by rw [hml]; rfl) (argsL := [(.int p2)]) (rest := []) (lenOf pd0 rfl) rfl (by show 2 * 0 + _ ≤ _; exact Nat.le_of_eq rfl) (hb hby at_6) (fun _ _ => ⟨rfl, e48, (by decide : 0 + 0 ≤ _), (by decide : 0 + 0 ≤ _)⟩)
      dsimp only [Pt.U, Pt.locs, Pt.cells, Pt.slots] at X49 l49 y49 z49 st49 hQ49
      subst l49 y49 z49
      obtain ⟨rfl, Nq49, e49⟩ := hQ49
      have N49 := Fr.app N48 Nq49
      refine Goes.by st49 ?_
      refine Goes.by (fun _ kz => XS.astoreN X49.here hx rfl (hb hby at_9) rfl rfl (l' := #[.val (.int p1), .val (.int p2), .val (.ref (w 1)), .val (.ref (w 1)), .unset]) rfl (XS.aloadN X49.here hx rfl (hb hby at_10) rfl rfl (XS.aloadN X49.here hx rfl (hb hby at_11) rfl rfl kz))) ?_
      show Goes p e below (T49.setTop (mkF m 12 #[.val (.int p1), .val (.int p2), .val (.ref (w 1)), .val (.ref (w 1)), .unset] [(.ref (w 1)), (.ref (w 1))])) _
      refine Goes.by (fun _ kz => Jvm.RoadKit.acmp (g := (mkF m 12 #[.val (.int p1), .val (.int p2), .val (.ref (w 1)), .val (.ref (w 1)), .unset] [(.ref (w 1)), (.ref (w 1))])) X49 hx rfl rfl rfl (pc0 := 12) (pc' := 15) (same := true) rfl (hb hby at_12) rfl (decide_eq_true rfl) (by decide) (by decide) (XS.aloadN X49.here hx rfl (hb hby at_15) rfl rfl (XS.astore X49.here hx rfl (hb hby at_16) rfl rfl (l' := #[.val (.int p1), .val (.int p2), .val (.ref (w 1)), .val (.ref (w 1)), .val (.ref (w 1))]) rfl kz))) ?_
      show Goes p e below (T49.setTop (mkF m 18 #[.val (.int p1), .val (.int p2), .val (.ref (w 1)), .val (.ref (w 1)), .val (.ref (w 1))] [])) _
      refine Goes.by (fun _ kz => XS.goto X49.here hx rfl (pc0 := 18) (pc' := 50) rfl (hb hby at_18) (by decide) (by decide) (XS.aloadN X49.here hx rfl (hb hby at_50) rfl rfl (XS.aloadN X49.here hx rfl (hb hby at_51) rfl rfl kz))) ?_
      obtain ⟨_, _, ⟨T50, L50, k50, n50⟩, -, X50, ⟨Lc50, hQ50, l50, y50, z50⟩, st50⟩ := Jvm.LawKit.callS X49 hx (y := (⟨"com/example/nextkey/nextkey/table/Collation", "common", "(Lcom/example/nextkey/nextkey/table/Collation;Lcom/example/nextkey/nextkey/table/Collation;)Lcom/example/nextkey/nextkey/table/Collation;"⟩ : MethodName)) hown (mvT hZ (hw _ (List.mem_of_getElem? (i := 8) rfl))) (mvT hZ (hw _ (List.mem_of_getElem? (i := 9) rfl))) (mvT hZ (hw _ (List.mem_of_getElem? (i := 6) rfl))) (mvT hZ (hw _ (List.mem_of_getElem? (i := 10) rfl))) (by decide) (backOf (W := 0) (r2_11 l Z a0 hw [] h0 n0 Z0 w P) hZ (hw _ (List.mem_of_getElem? (i := 10) rfl)) (hw _ (List.mem_of_getElem? (i := 6) rfl)) (by decide) (by decide)) (g := (mkF m 52 #[.val (.int p1), .val (.int p2), .val (.ref (w 1)), .val (.ref (w 1)), .val (.ref (w 1))] [(.ref (w 1)), (.ref (w 1))])) rfl (by rw [hml]; rfl) (argsL := [(.ref (w 1)), (.ref (w 1))]) (rest := []) (lenOf pd1 rfl) rfl (by show 2 * 0 + _ ≤ _; exact Nat.le_of_eq rfl) (hb hby at_52) (fun _ _ => ⟨rfl, e49, (by decide : 0 + 0 ≤ _), (by decide : 0 + 0 ≤ _)⟩)
      dsimp only [Pt.U, Pt.locs, Pt.cells, Pt.slots] at X50 l50 y50 z50 st50 hQ50
      subst l50 y50 z50
      obtain ⟨rfl, Nq50, e50⟩ := hQ50
      have N50 := Fr.app N49 Nq50
      refine Goes.by st50 ?_
      refine Goes.by (fun _ kz => XS.aload X50.here hx rfl (hb hby at_55) rfl rfl (Jvm.RoadKit.acmp (g := (mkF m 57 #[.val (.int p1), .val (.int p2), .val (.ref (w 1)), .val (.ref (w 1)), .val (.ref (w 1))] [(.ref (w 1)), (.ref (w 1))])) X50 hx rfl rfl rfl (pc0 := 57) (pc' := 60) (same := true) rfl (hb hby at_57) rfl (decide_eq_true rfl) (by decide) (by decide) (XS.iconst X50.here hx rfl (hb hby at_60) kz))) ?_
      show Goes p e below (T50.setTop (mkF m 61 #[.val (.int p1), .val (.int p2), .val (.ref (w 1)), .val (.ref (w 1)), .val (.ref (w 1))] [(.int (1 : Int32))])) _
      refine Goes.by (fun _ kz => XS.goto X50.here hx rfl (pc0 := 61) (pc' := 65) rfl (hb hby at_61) (by decide) (by decide) kz) ?_
      show Goes p e below (T50.setTop (mkF m 65 #[.val (.int p1), .val (.int p2), .val (.ref (w 1)), .val (.ref (w 1)), .val (.ref (w 1))] [(.int (1 : Int32))])) _
      obtain ⟨fs, hr, hrun, hended, hW, hsame⟩ := X50.leave (v := some (.int (1 : Int32))) (fun h => by rw [Bd.returns] at h; cases h)
      exact ⟨_, _, retN X50 hx (t := .boolean) Bd.returns (by simp) (hb hby at_65) hr, hrun, hended, _, _, rfl, ⟨rfl, N50⟩, ⟨_, rfl⟩, hW, hsame.mono (by decide) (by decide)⟩
set_option maxRecDepth 65536 in
set_option maxHeartbeats 40000000 in
theorem comes_1 {Post : Tables → Env → Array Value → State → Outcome → State → Prop} (hpost : ∀ tb e args s v u, (limb_1_1.after args s (.returned v) u = true ∧ limb_1_2.after args s (.returned v) u = true ∧ True) → FrameEnd s (.returned v) u (Jvm.fieldLocs frame_1_writes args s ++ Jvm.arrayLocs frame_1_arrays args s ++ Jvm.staticLocs frame_1_statics s) 0 0 → Post tb e args s (.returned v) u) :
    ArmFor flags0 classFile x code maxLocals ret World_1 tables_1 room_1 Calls_1 rest_1 Pre_1 Post := by
  intro l hfl _ _ p e ha hc hk s m args below hf hA hF happ hP
  obtain ⟨hcalls, hrest, hpre⟩ := hP
  obtain ⟨-, -, -, hnamed, -, -, -, hat⟩ := (Spec.applies_iff hf).mp happ
  obtain ⟨hg, hn⟩ := and_e (Cond.before_iff.mp (show (Jvm.Cond.and given_1 narrow_1).before args s = true from hpre))
  obtain ⟨a1, b1⟩ := and_e hg
  obtain ⟨a2, b2⟩ := and_e b1
  obtain ⟨w0, w1, rfl⟩ : ∃ w0 w1 : Value, args = #[w0, w1] := by
    have hs : args.size = 2 := by simpa [Cond.value, given_1] using a1
    obtain ⟨L⟩ := args
    match L, hs with
    | [w0, w1], _ => exact ⟨w0, w1, rfl⟩
  have hw := fun d (hd : d ∈ tables_1) => atoms_spec (ws := Jvm.Cond.code x code maxLocals ret :: tables_1) hat d (List.mem_cons_of_mem _ hd)
  obtain ⟨i0, ei0⟩ := is_v a2
  obtain rfl : w0 = (.int i0) := Option.some.inj ei0
  obtain ⟨i1, ei1⟩ := is_v b2
  obtain rfl : w1 = (.int i1) := Option.some.inj ei1
  obtain ⟨q0, t0⟩ := and_e hn
  obtain ⟨q1, t1⟩ := and_e t0
  obtain ⟨q2, t2⟩ := and_e t1
  obtain ⟨q3, t3⟩ := and_e t2
  obtain ⟨q4, t4⟩ := and_e t3
  obtain ⟨q5, t5⟩ := and_e t4
  obtain ⟨q6, t6⟩ := and_e t5
  obtain ⟨q7, t7⟩ := and_e t6
  have q8 := t7
  obtain ⟨v0, ev0⟩ := exa_v q0
  have S0 := Sta.start ev0 (Or.inr ⟨(hw _ (List.mem_of_getElem? (i := 6) rfl)), (hw _ (List.mem_of_getElem? (i := 7) rfl))⟩)
  have E0 := Exa.start ev0 q0
  obtain ⟨v1, ev1⟩ := exa_v q1
  have S1 := Sta.start ev1 (Or.inr ⟨(hw _ (List.mem_of_getElem? (i := 6) rfl)), (hw _ (List.mem_of_getElem? (i := 12) rfl))⟩)
  have E1 := Exa.start ev1 q1
  obtain ⟨v2, ev2⟩ := exa_v q2
  have S2 := Sta.start ev2 (Or.inr ⟨(hw _ (List.mem_of_getElem? (i := 6) rfl)), (hw _ (List.mem_of_getElem? (i := 14) rfl))⟩)
  have E2 := Exa.start ev2 q2
  have F3 := own_fldI ev1 q3
  have F4 := own_fldI ev2 q4
  have F5 := own_fldI ev0 q5
  have F6 := own_fldI ev2 q6
  have F7 := own_fldI ev1 q7
  have F8 := own_fldI ev0 q8
  have P : Pins s s.heap (fun i => [v0, v1, v2].getD i 0) := ⟨S0, E0, S1, E1, S2, E2, F3, F4, F5, F6, F7, F8⟩
  obtain ⟨n, o, h1, h2, h3, _, L, rfl, ⟨rfl, N⟩, hq⟩ := rm0 l s _ hw tables_1 s.heap s.heap.size (Nat.le_refl _) i0 i1 (fun i => [v0, v1, v2].getD i 0) P p e ha hc hk s m _ below hf ((Spec.applies_iff_loose hf).mp happ).1 ⟨rfl, State.Warmed39.refl s, rfl⟩ trivial
  refine ⟨n, _, h1, h2, h3, hpost _ _ _ _ _ _ ⟨Cond.after_iff.mpr rfl, Cond.after_iff.mpr (eq_i res_at (Term.int_eval (1)) rfl), trivial⟩ ⟨hq.1, hq.2.1, (hq.2.2.sift fun y hy => Or.inr (N y hy)).mono (by decide) (by decide)⟩⟩
theorem main_1_1 : Claimed_1_1 := comes_1 fun _ _ _ _ _ _ h hF => ⟨h.1, hF⟩
theorem main_1_2 : Claimed_1_2 := comes_1 fun _ _ _ _ _ _ h hF => ⟨h.2.1, hF⟩
end Jvm.Pilot.@@N@@
namespace Jvm.Pilot.@@N@@
open Jvm Jvm.ClassFile Sem Op Lib Jvm.Free Jvm.Stand Jvm.Pilot.@@N@@.Jvm.D
/-! MADE BY PROGRAM (witnessworld.py) out of the Statement's table words and the real class files: 12 classes; the members and pool entries that the words name. The judged class is class 1, her method 2. -/
namespace start1
open Jvm.ClassFile
def u (s : String) : CpInfo := .utf8 (stringToUtf16 s)
/-- a pool by its gaps: so many unusable entries, then the entry; so many at the end -/
def gap : Nat → List CpInfo → List CpInfo
  | 0, r => r
  | n + 1, r => .unusable :: gap n r
def poolList (es : List (Nat × CpInfo)) (last : Nat) : List CpInfo := es.foldr (fun e r => gap e.1 (e.2 :: r)) (gap last [])
def pool (es : List (Nat × CpInfo)) (last : Nat) : Array CpInfo := ⟨poolList es last⟩
def fileOf (pool : Array CpInfo) (this : Nat) (attrs : Array Attribute := #[]) (ms : Array MethodInfo := #[]) (fl : Nat := 33) (sup : Nat := 0) (ifs : Array Nat := #[]) (fds : Array FieldInfo := #[]) : ClassFile where
  minorVersion := 0
  majorVersion := 65
  constantPool := pool
  accessFlags := fl
  thisClass := this
  superClass := sup
  interfaces := ifs
  fields := fds
  methods := ms
  attributes := attrs
def plain (name : String) (sup : Option ClassId) : Class where
  name := name
  kind := .ordinary
  loader := none
  accessFlags := 33
  super := sup
  interfaces := #[]
  cf := none
  fields := #[]
  methods := #[]
  instanceTypes := #[]
  staticTypes := #[]
  resolved := #[]
  callSites := []
  init := .initialized
  statics := none
  mirror := none

def pool0 : Array CpInfo := pool [(5, u "<init>"), (0, u "()V"), (1, .class_ 10), (1, u "java/lang/Object")] 113

def k0m0 : Method := { name := "<init>", desc := "()V", sig := { parameters := [], returnType := none }, accessFlags := 1, code := none }
/-- java/lang/Object -/
def k0 : Class := { plain "java/lang/Object" none with
  accessFlags := 33
  interfaces := #[]
  cf := some (fileOf pool0 8 #[] #[{ accessFlags := 1, nameIndex := 5, descriptorIndex := 6, attributes := #[] }] 33 0 #[] #[])
  fields := #[]
  methods := #[k0m0]
  instanceTypes := #[]
  staticTypes := #[]
  resolved := Array.replicate 124 none
  statics := none }

def pool1 : Array CpInfo := pool [(2, .class_ 4), (1, u "java/lang/Object"), (0, u "<init>"), (0, u "()V"), (0, .integer 2147483647), (0, .fieldref 9 10), (0, .class_ 11), (0, .nameAndType 12 13), (0, u "com/example/nextkey/nextkey/table/Collation"), (0, u "UTF8MB4_0900_AI_CI"), (0, u "Lcom/example/nextkey/nextkey/table/Collation;"), (0, .fieldref 9 15), (0, .nameAndType 16 13), (0, u "UTF8MB4_0900_BIN"), (0, .fieldref 9 18), (0, .nameAndType 19 13), (0, u "UTF8MB4_BIN"), (0, .methodref 21 22), (0, .class_ 23), (0, .nameAndType 24 25), (0, u "com/example/nextkey/nextkey/table/CollationCommonPinLaw"), (0, u "pick"), (0, u "(I)Lcom/example/nextkey/nextkey/table/Collation;"), (0, .methodref 9 27), (0, .nameAndType 28 29), (0, u "common"), (0, u "(Lcom/example/nextkey/nextkey/table/Collation;Lcom/example/nextkey/nextkey/table/Collation;)Lcom/example/nextkey/nextkey/table/Collation;"), (3, u "law"), (0, u "(II)Z")] 2

def k1m0 : Method := { name := "<init>", desc := "()V", sig := { parameters := [], returnType := none }, accessFlags := 1, code := none }
def k1c1 : Code := { maxStack := 2, maxLocals := 2, code := method_2_code, exceptionTable := #[], attributes := #[] }
def k1m1 : Method := { name := "pick", desc := "(I)Lcom/example/nextkey/nextkey/table/Collation;", sig := { parameters := [.int], returnType := some (.object "com/example/nextkey/nextkey/table/Collation") }, accessFlags := 10, code := some k1c1 }
def k1c2 : Code := { maxStack := 2, maxLocals := 5, code := code, exceptionTable := #[], attributes := #[] }
def k1m2 : Method := { name := "law", desc := "(II)Z", sig := { parameters := [.int, .int], returnType := some .boolean }, accessFlags := 9, code := some k1c2 }
/-- com/example/nextkey/nextkey/table/CollationCommonPinLaw -/
def k1 : Class := { plain "com/example/nextkey/nextkey/table/CollationCommonPinLaw" (some 0) with
  accessFlags := 49
  interfaces := #[]
  cf := some (fileOf pool1 21 #[] #[{ accessFlags := 1, nameIndex := 5, descriptorIndex := 6, attributes := #[] }, { accessFlags := 10, nameIndex := 24, descriptorIndex := 25, attributes := #[] }, { accessFlags := 9, nameIndex := 33, descriptorIndex := 34, attributes := #[] }] 49 2 #[] #[])
  fields := #[]
  methods := #[k1m0, k1m1, k1m2]
  instanceTypes := #[]
  staticTypes := #[]
  resolved := Array.replicate 37 none
  statics := none }

def pool2 : Array CpInfo := pool [(1, .class_ 2), (0, u "java/lang/constant/Constable"), (0, .class_ 4), (0, u "java/lang/Object")] 6

/-- java/lang/constant/Constable -/
def k2 : Class := { plain "java/lang/constant/Constable" (some 0) with
  accessFlags := 1537
  interfaces := #[]
  cf := some (fileOf pool2 1 #[] #[] 1537 3 #[] #[])
  fields := #[]
  methods := #[]
  instanceTypes := #[]
  staticTypes := #[]
  resolved := Array.replicate 11 none
  statics := none }

def pool3 : Array CpInfo := pool [(1, .class_ 2), (0, u "java/lang/Comparable"), (0, .class_ 4), (0, u "java/lang/Object")] 7

/-- java/lang/Comparable -/
def k3 : Class := { plain "java/lang/Comparable" (some 0) with
  accessFlags := 1537
  interfaces := #[]
  cf := some (fileOf pool3 1 #[] #[] 1537 3 #[] #[])
  fields := #[]
  methods := #[]
  instanceTypes := #[]
  staticTypes := #[]
  resolved := Array.replicate 12 none
  statics := none }

def pool4 : Array CpInfo := pool [(1, .class_ 2), (0, u "java/io/Serializable"), (0, .class_ 4), (0, u "java/lang/Object")] 2

/-- java/io/Serializable -/
def k4 : Class := { plain "java/io/Serializable" (some 0) with
  accessFlags := 1537
  interfaces := #[]
  cf := some (fileOf pool4 1 #[] #[] 1537 3 #[] #[])
  fields := #[]
  methods := #[]
  instanceTypes := #[]
  staticTypes := #[]
  resolved := Array.replicate 7 none
  statics := none }

def pool5 : Array CpInfo := pool [(2, .class_ 4), (1, u "java/lang/Enum"), (0, u "name"), (0, u "Ljava/lang/String;"), (2, u "ordinal"), (0, u "I"), (1, .class_ 14), (1, u "java/lang/Object"), (4, u "hash"), (86, .class_ 108), (1, u "java/lang/Enum$EnumDesc"), (2, .class_ 112), (0, u "java/lang/constant/Constable"), (0, .class_ 114), (0, u "java/lang/Comparable"), (0, .class_ 116), (0, u "java/io/Serializable")] 87

/-- java/lang/Enum -/
def k5 : Class := { plain "java/lang/Enum" (some 0) with
  accessFlags := 1057
  interfaces := #[2, 3, 4]
  cf := some (fileOf pool5 2 #[.nestMembers #[106]] #[] 1057 12 #[111, 113, 115] #[{ accessFlags := 18, nameIndex := 5, descriptorIndex := 6, attributes := #[] }, { accessFlags := 18, nameIndex := 9, descriptorIndex := 10, attributes := #[] }, { accessFlags := 2, nameIndex := 19, descriptorIndex := 10, attributes := #[] }])
  fields := #[{ name := "name", type := (.object "java/lang/String"), accessFlags := 18, slot := 0, constantValue := 0 }, { name := "ordinal", type := .int, accessFlags := 18, slot := 1, constantValue := 0 }, { name := "hash", type := .int, accessFlags := 2, slot := 2, constantValue := 0 }]
  methods := #[]
  instanceTypes := #[(.object "java/lang/String"), .int, .int]
  staticTypes := #[]
  resolved := Array.replicate 204 none
  statics := none }

def pool6 : Array CpInfo := pool [(1, .class_ 2), (0, u "com/example/nextkey/nextkey/table/Collation"), (2, u "UTF8MB4_0900_AI_CI"), (0, u "Lcom/example/nextkey/nextkey/table/Collation;"), (2, u "UTF8MB4_0900_BIN"), (2, u "UTF8MB4_BIN"), (2, u "$VALUES"), (0, u "[Lcom/example/nextkey/nextkey/table/Collation;"), (6, .class_ 25), (1, u "java/lang/Enum"), (8, u "sqlName"), (0, u "Ljava/lang/String;"), (0, .fieldref 1 37), (0, .nameAndType 38 39), (0, u "binary"), (0, u "Z"), (14, u "DEFAULT"), (79, u "CHARACTER_SET"), (1, u "PAD"), (0, u "I"), (10, u "common"), (0, u "(Lcom/example/nextkey/nextkey/table/Collation;Lcom/example/nextkey/nextkey/table/Collation;)Lcom/example/nextkey/nextkey/table/Collation;")] 9

def k6c0 : Code := { maxStack := 2, maxLocals := 3, code := prog_66_method_6_code, exceptionTable := #[], attributes := #[] }
def k6m0 : Method := { name := "common", desc := "(Lcom/example/nextkey/nextkey/table/Collation;Lcom/example/nextkey/nextkey/table/Collation;)Lcom/example/nextkey/nextkey/table/Collation;", sig := { parameters := [(.object "com/example/nextkey/nextkey/table/Collation"), (.object "com/example/nextkey/nextkey/table/Collation")], returnType := some (.object "com/example/nextkey/nextkey/table/Collation") }, accessFlags := 9, code := some k6c0 }
/-- com/example/nextkey/nextkey/table/Collation -/
def k6 : Class := { plain "com/example/nextkey/nextkey/table/Collation" (some 5) with
  accessFlags := 16433
  interfaces := #[]
  cf := some (fileOf pool6 1 #[] #[{ accessFlags := 9, nameIndex := 148, descriptorIndex := 149, attributes := #[] }] 16433 23 #[] #[{ accessFlags := 16409, nameIndex := 5, descriptorIndex := 6, attributes := #[] }, { accessFlags := 16409, nameIndex := 9, descriptorIndex := 6, attributes := #[] }, { accessFlags := 16409, nameIndex := 12, descriptorIndex := 6, attributes := #[] }, { accessFlags := 25, nameIndex := 54, descriptorIndex := 6, attributes := #[] }, { accessFlags := 26, nameIndex := 134, descriptorIndex := 35, attributes := #[] }, { accessFlags := 26, nameIndex := 136, descriptorIndex := 137, attributes := #[] }, { accessFlags := 18, nameIndex := 34, descriptorIndex := 35, attributes := #[] }, { accessFlags := 18, nameIndex := 38, descriptorIndex := 39, attributes := #[] }, { accessFlags := 4122, nameIndex := 15, descriptorIndex := 16, attributes := #[] }])
  fields := #[{ name := "UTF8MB4_0900_AI_CI", type := (.object "com/example/nextkey/nextkey/table/Collation"), accessFlags := 16409, slot := 0, constantValue := 0 }, { name := "UTF8MB4_0900_BIN", type := (.object "com/example/nextkey/nextkey/table/Collation"), accessFlags := 16409, slot := 1, constantValue := 0 }, { name := "UTF8MB4_BIN", type := (.object "com/example/nextkey/nextkey/table/Collation"), accessFlags := 16409, slot := 2, constantValue := 0 }, { name := "DEFAULT", type := (.object "com/example/nextkey/nextkey/table/Collation"), accessFlags := 25, slot := 3, constantValue := 0 }, { name := "CHARACTER_SET", type := (.object "java/lang/String"), accessFlags := 26, slot := 4, constantValue := 0 }, { name := "PAD", type := .int, accessFlags := 26, slot := 5, constantValue := 0 }, { name := "sqlName", type := (.object "java/lang/String"), accessFlags := 18, slot := 3, constantValue := 0 }, { name := "binary", type := .boolean, accessFlags := 18, slot := 4, constantValue := 0 }, { name := "$VALUES", type := (.array (.object "com/example/nextkey/nextkey/table/Collation")), accessFlags := 4122, slot := 6, constantValue := 0 }]
  methods := #[k6m0]
  instanceTypes := #[(.object "java/lang/String"), .int, .int, (.object "java/lang/String"), .boolean]
  staticTypes := #[(.object "com/example/nextkey/nextkey/table/Collation"), (.object "com/example/nextkey/nextkey/table/Collation"), (.object "com/example/nextkey/nextkey/table/Collation"), (.object "com/example/nextkey/nextkey/table/Collation"), (.object "java/lang/String"), .int, (.array (.object "com/example/nextkey/nextkey/table/Collation"))]
  resolved := Array.replicate 159 none
  statics := some 0 }

def pool7 : Array CpInfo := pool [(1, u "java/lang/Cloneable"), (0, .class_ 1), (0, u "java/lang/Object"), (0, .class_ 3)] 3

/-- java/lang/Cloneable -/
def k7 : Class := { plain "java/lang/Cloneable" (some 0) with
  accessFlags := 1537
  interfaces := #[]
  cf := some (fileOf pool7 2 #[] #[] 1537 4 #[] #[])
  fields := #[]
  methods := #[]
  instanceTypes := #[]
  staticTypes := #[]
  resolved := Array.replicate 8 none
  statics := none }

/-- the primitive byte -/
def k8 : Class := { plain "byte" none with kind := .primitive 'B', accessFlags := 0x411 }
/-- [B -/
def k9 : Class := { plain "[B" (some 0) with kind := .array 8 .byte, interfaces := #[7, 4], accessFlags := 1041 }

/-- the primitive int -/
def k10 : Class := { plain "int" none with kind := .primitive 'I', accessFlags := 0x411 }
/-- [I -/
def k11 : Class := { plain "[I" (some 0) with kind := .array 10 .int, interfaces := #[7, 4], accessFlags := 1041 }

def heap : Heap := #[{ cls := 6, slots := #[.ref 1, .ref 3, .ref 2, .null, .null, .int 0, .null], vm := .statics 6 },
  { cls := 6, slots := #[.null, .int 0, .int 0, .null, .int 0], vm := .none },
  { cls := 6, slots := #[.null, .int 2, .int 0, .null, .int 1], vm := .none },
  { cls := 6, slots := #[.null, .int 1, .int 0, .null, .int 1], vm := .none }]
def classes : Array Class := #[k0, k1, k2, k3, k4, k5, k6, k7, k8, k9, k10, k11]
def interned : List (Array UInt16 × Addr) := []
def slotsUsed : Nat := 22
def theMethod : MethodId := ⟨1, 2⟩
def args0 : Array Value := #[.int 5, .int 7]
def aboutOver (below : List Frame) : State where
  vm := { classes := classes, interned := interned.toArray }
  heap := heap
  slotsUsed := slotsUsed
  threads := #[{ frames := .invoking theMethod args0 :: below }]
def below0 : List Frame := [.native { method := ⟨0, 0⟩, args := #[] }]
def about1 : State := aboutOver below0
def p0 : Program := .bare "" "" ""
def e0 : Env := launch0.env 0 0 0
theorem w_frames : about1.frames = Frame.invoking theMethod args0 :: below0 := rfl
set_option maxRecDepth 65536 in
theorem w_args : argsFit about1.vm theMethod args0 = true := by decide +kernel
set_option maxRecDepth 65536 in
theorem w_heap : heapFits about1 = true := by decide +kernel
set_option maxRecDepth 65536 in
theorem w_runnable : about1.curStatus? = some .runnable := by decide +kernel
set_option maxRecDepth 65536 in
theorem w_alone : about1.alone = true := by decide +kernel
set_option maxRecDepth 65536 in
theorem w_named : about1.methodNamed? x = some theMethod := by decide +kernel
set_option maxRecDepth 65536 in
theorem w_hears : about1.hears theMethod below0 = true := by decide +kernel
set_option maxRecDepth 65536 in
theorem w_ripe : about1.ripe theMethod args0 below0 = true := by decide +kernel
theorem w_running : about1.status = .running := rfl
set_option maxRecDepth 65536 in
theorem w_room : about1.hasRoom e0.platform room_1 = true :=
  launch0.hasRoom_least _ room_1 (by decide +kernel) (by decide +kernel) (by decide +kernel) (by decide +kernel) (by decide +kernel) (by decide +kernel)
theorem allAtoms_all (ts : List Jvm.Cond) (a : Array Jvm.Value) (st : Jvm.State) : (allAtoms ts).before a st = ts.all (fun c => c.before a st) := by
  induction ts with
  | nil => rfl
  | cons c t ih =>
    show (Jvm.Cond.and c (allAtoms t)).before a st = _
    rw [Jvm.Cond.before_and, ih, List.all_cons]
def words1 : List Jvm.Cond := Jvm.Cond.code x code maxLocals ret :: tables_1
/-- a 'code' word, met by the world's own term for the bytes: nothing is compared byte by byte -/
theorem code_word {y : MethodName} {bytes : ByteArray} {mx : Nat} {rt : Option FieldType} {a : Array Value} {s : State} {m : MethodId} {meth : Method} {c : Code} (h1 : s.methodNamed? y = some m) (h2 : s.vm.method? m = some meth) (h3 : meth.code = some c) (h4 : c.code = bytes)
    (h5 : (c.maxLocals == mx && c.exceptionTable.isEmpty && decide (c.maxStack ≤ mostOperands) && decide (meth.sig.returnType = rt) && !meth.locks && decide (parseMethodDescriptor y.desc = some meth.sig)) = true) : (Jvm.Cond.code y bytes mx rt).before a s = true := by
  simp only [Bool.and_eq_true, beq_iff_eq, Bool.not_eq_true', decide_eq_true_eq] at h5
  obtain ⟨⟨⟨⟨⟨g1, g2⟩, g3⟩, g4⟩, g5⟩, g6⟩ := h5
  simp [Cond.before, Cond.holds, Cond.value, h1, h2, h3, h4, g1, g2, g3, g4, g5, g6]
def isCode : Jvm.Cond → Bool
  | .code _ _ _ _ => true
  | _ => false
theorem all_split {L : List Jvm.Cond} {P : Jvm.Cond → Bool} (h1 : L.all (fun c => isCode c || P c) = true) (h2 : ∀ c ∈ L.filter isCode, P c = true) : L.all P = true := by
  refine List.all_eq_true.mpr fun c hc => ?_
  have h := List.all_eq_true.mp h1 c hc
  rcases Bool.eq_false_or_eq_true (isCode c) with hi | hi
  · exact h2 c (List.mem_filter.mpr ⟨hc, hi⟩)
  · simpa [hi] using h
set_option maxRecDepth 65536 in
theorem w_c0 : (Jvm.Cond.code x code maxLocals ret).before args0 about1 = true := code_word (m := ⟨1, 2⟩) (meth := k1m2) (c := k1c2) (by decide +kernel) rfl rfl rfl (by decide +kernel)
set_option maxRecDepth 65536 in
theorem w_c1 : (Jvm.Cond.code ({ cls := "com/example/nextkey/nextkey/table/CollationCommonPinLaw", name := "pick", desc := "(I)Lcom/example/nextkey/nextkey/table/Collation;" } : Jvm.MethodName) method_2_code (2 : Nat) (Option.some (Jvm.ClassFile.FieldType.object "com/example/nextkey/nextkey/table/Collation"))).before args0 about1 = true := code_word (m := ⟨1, 1⟩) (meth := k1m1) (c := k1c1) (by decide +kernel) rfl rfl rfl (by decide +kernel)
set_option maxRecDepth 65536 in
theorem w_c2 : (Jvm.Cond.code ({ cls := "com/example/nextkey/nextkey/table/Collation", name := "common", desc := "(Lcom/example/nextkey/nextkey/table/Collation;Lcom/example/nextkey/nextkey/table/Collation;)Lcom/example/nextkey/nextkey/table/Collation;" } : Jvm.MethodName) prog_66_method_6_code (3 : Nat) (Option.some (Jvm.ClassFile.FieldType.object "com/example/nextkey/nextkey/table/Collation"))).before args0 about1 = true := code_word (m := ⟨6, 0⟩) (meth := k6m0) (c := k6c0) (by decide +kernel) rfl rfl rfl (by decide +kernel)
def codes1 : List Jvm.Cond := [Jvm.Cond.code x code maxLocals ret, Jvm.Cond.code ({ cls := "com/example/nextkey/nextkey/table/CollationCommonPinLaw", name := "pick", desc := "(I)Lcom/example/nextkey/nextkey/table/Collation;" } : Jvm.MethodName) method_2_code (2 : Nat) (Option.some (Jvm.ClassFile.FieldType.object "com/example/nextkey/nextkey/table/Collation")), Jvm.Cond.code ({ cls := "com/example/nextkey/nextkey/table/Collation", name := "common", desc := "(Lcom/example/nextkey/nextkey/table/Collation;Lcom/example/nextkey/nextkey/table/Collation;)Lcom/example/nextkey/nextkey/table/Collation;" } : Jvm.MethodName) prog_66_method_6_code (3 : Nat) (Option.some (Jvm.ClassFile.FieldType.object "com/example/nextkey/nextkey/table/Collation"))]
set_option maxRecDepth 65536 in
theorem codes_eq : words1.filter isCode = codes1 := rfl
theorem w_codes : ∀ c ∈ words1.filter isCode, c.before args0 about1 = true := by
  rw [codes_eq]
  intro c hc
  simp only [codes1, List.mem_cons, List.not_mem_nil, or_false] at hc
  rcases hc with rfl | rfl | rfl
  · exact w_c0
  · exact w_c1
  · exact w_c2
set_option maxRecDepth 65536 in
theorem w_t1 : words1.all (fun c => isCode c || c.before args0 about1) = true := by decide +kernel
theorem w_tables : (allAtoms (Jvm.Cond.code x code maxLocals ret :: tables_1)).before args0 about1 = true := by
  rw [allAtoms_all]
  show words1.all (fun c => c.before args0 about1) = true
  refine all_split ?_ w_codes
  rw [w_t1]
set_option maxRecDepth 65536 in
theorem w_case : (Jvm.Cond.and given_1 narrow_1).before args0 about1 = true := by decide +kernel
theorem w_applies : (headSpec (Jvm.Cond.code x code maxLocals ret :: tables_1) room_1).applies x e0.platform about1 = true :=
  (Spec.applies_iff w_frames).mpr ⟨w_running, w_runnable, w_alone, w_named, w_hears, w_ripe, w_room, w_tables⟩
theorem atStart : AtStart classFile x code maxLocals ret World_1 tables_1 room_1 Calls_1 rest_1 Pre_1 launch0 p0 e0 about1 theMethod args0 below0 :=
  ⟨lists_1, trivial, launch0.admits_env _ _ _, launch0.least_env, fairChoices_fair.cas, fairChoices_fair.clock, w_frames, w_args, w_heap, w_applies, trivial, trivial, w_case⟩
end start1
theorem witness_1 : WitnessClaimed_1 := ⟨start1.p0, start1.e0, start1.about1, start1.theMethod, start1.args0, start1.below0, start1.atStart⟩
end Jvm.Pilot.@@N@@
